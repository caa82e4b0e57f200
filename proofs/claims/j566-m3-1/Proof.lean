import JvmDerived
import JvmDerived.Pilot.@@N@@Statement
import JvmDerived.Pilot.@@N@@Code
set_option linter.unusedVariables false
set_option linter.unusedSimpArgs false
@@BLOCK:NumsL.lean.txt@@
namespace Jvm.RoadKit
open Sem ClassFile Op Lib Jvm.Stand Jvm.Free Jvm.LawKit
section New
variable {p : Program} {l : Launch} {e : Env} {R : Room} {s : State} {m : MethodId} {args : Array Value} {below : List Frame} {meth : Method} {c : Code} {T : State} {locs : List Loc} {cells slots : Nat}
theorem retI (X : Stand p l e R s m args below meth c T locs cells slots) (hx : p.tables.exec = Jvm.exec) {pc : Nat} {Ls : Array Slot} {z : Int32} {rest : List Value} (hret : meth.sig.returnType = some .int) (hd : decode c.code pc = .ok (.ireturn, 1)) {fs : List Frame}
    (hl : ∀ (f : JFrame) (acts : List Action), f.method = m → f.locked = none → f.entered = [] → (doReturn e (T.setTop f) acts (some (.int z))).1 = T.setFrames fs) : Steps p.tables e below (T.setTop (mkF m pc Ls (.int z :: rest))) (T.setFrames fs) := by
  have hm' : T.vm.method? m = some meth := X.method'
  have hn : narrow .int (.int z) = .int z := rfl
  show Steps p.tables e below (T.setTop { method := m, pc := pc, locals := Ls, stack := _ :: rest, locked := none }) _
  jvm_step X.here [X.here.top, hx, hd, hm', hret, hn]
  first | (intro acts; rw [hl _ acts rfl rfl rfl]) | rw [hl _ _ rfl rfl rfl]
  exact Steps.refl _
theorem lremM {g : JFrame} {target : State} (X : Stand p l e R s m args below meth c T locs cells slots) (hx : p.tables.exec = Jvm.exec) (hg : g.method = m) {x y : Int64} {rest : List Value} (hd : decode c.code g.pc = .ok (.lrem, 1)) (hs : g.stack = .long y :: .long x :: rest) (hy : y ≠ 0)
    (hr : Steps p.tables e below (T.setTop { g with pc := g.pc + 1, stack := .long (x % y) :: rest }) target) : Steps p.tables e below (T.setTop g) target := by
  have q : x - x / y * y = x % y := lrem_mod x y
  exact XS.lrem X.here hx hg hd hs hy (by rw [q]; exact hr)
/-- from the state t the invocation ends as Q says -/
def Done (p : Program) (e : Env) (below : List Frame) (Q : Outcome → State → Prop) (t : State) : Prop := ∃ s₂ o, Steps p.tables e below t s₂ ∧ s₂.status = .running ∧ Ended s₂ below o ∧ Q o s₂
theorem Done.of {p : Program} {e : Env} {below : List Frame} {Q : Outcome → State → Prop} {t t' : State} (h : Done p e below Q t') (k : ∀ target, Steps p.tables e below t' target → Steps p.tables e below t target) : Done p e below Q t := by
  obtain ⟨s₂, o, h1, h2⟩ := h
  exact ⟨s₂, o, k _ h1, h2⟩
end New
end Jvm.RoadKit
namespace Jvm.Pilot.@@N@@
open Jvm Jvm.ClassFile Sem Op Lib Jvm.Free Jvm.Stand Jvm.LawKit Jvm.RoadKit Bundle Jvm.Pilot.@@N@@.Jvm.D

def own_max (x y : Int32) : Int32 := if x < y then y else x
theorem own_pw {a b : Nat} (h : a ≤ b) : (2 : Int) ^ a ≤ (2 : Int) ^ b := by
  have := Nat.pow_le_pow_right (n := 2) (by decide) h
  exact_mod_cast this
theorem own_z0 : (0 : Int32).toInt = 0 := by decide
theorem own_sh (x k : Int32) (n : Nat) (P : Int) (hk : k.toBitVec.toNat % 32 = n) (h0 : 0 < n) (hP : ((2 ^ n : Nat) : Int) = P) (hx : 0 ≤ x.toInt) : ((x.toUInt32 >>> (k &&& 31).toUInt32).toInt32).toInt = x.toInt / P := by
  have h := c_iushr x k n hk h0
  have r := rng32 x
  rw [h, hP]
  congr 1
  omega
theorem d2_0 : decode jdk_29_method_65_code 0 = .ok (.iload_n 0, 1) := by decide +kernel
theorem d2_1 : decode jdk_29_method_65_code 1 = .ok (.iload_n 1, 1) := by decide +kernel
theorem d2_2 : decode jdk_29_method_65_code 2 = .ok (.if_icmp .lt 7, 3) := by decide +kernel
theorem d2_5 : decode jdk_29_method_65_code 5 = .ok (.iload_n 0, 1) := by decide +kernel
theorem d2_6 : decode jdk_29_method_65_code 6 = .ok (.goto 4, 3) := by decide +kernel
theorem d2_9 : decode jdk_29_method_65_code 9 = .ok (.iload_n 1, 1) := by decide +kernel
theorem d2_10 : decode jdk_29_method_65_code 10 = .ok (.ireturn, 1) := by decide +kernel
theorem ef_2 (m : MethodId) (p0 : Int32) (p1 : Int32)  : entryFrame m #[(.int p0), (.int p1)] 2 = mkF m 0 #[.val (.int p0), .val (.int p1)] [] := by first | (simp [entryFrame, mkF, argsToLocals, Value.category]; done) | rfl
def Q2 (Z : State) (p0 : Int32) (p1 : Int32) (h0 : Heap) (n0 : Nat) (v : Option Value) (h : Heap) (L : List Loc) : Prop := v = some (.int (own_max p0 p1)) ∧ Fr n0 L ∧ h = h0
set_option maxRecDepth 65536 in
set_option maxHeartbeats 40000000 in
theorem rm2 (l : Launch) (Z : State) (a0 : Array Value) (hw : ∀ d ∈ tables_1, d.before a0 Z = true) (ws : List Jvm.Cond) (p0 : Int32) (p1 : Int32) (h0 : Heap) (n0 : Nat) (Z0 : n0 ≤ h0.size) :
    MetFree l (⟨"java/lang/Math", "max", "(II)I"⟩ : MethodName) (head1 (Jvm.Cond.code (⟨"java/lang/Math", "max", "(II)I"⟩ : MethodName) jdk_29_method_65_code 2 (some .int) :: ws) ({ frames := 0, cells := 0, slots := 0, locals := 0 } : Room)) (fun a U => a = #[(.int p0), (.int p1)] ∧ Z.Warmed39 U.vm ∧ U.heap = h0) (fun _ _ _ _ _ => True) (fun _ U o U' => ∃ v L, o = .returned v ∧ Q2 Z p0 p1 h0 n0 v U'.heap L ∧ FrameEnd U o U' L ({ frames := 0, cells := 0, slots := 0, locals := 0 } : Room).cells ({ frames := 0, cells := 0, slots := 0, locals := 0 } : Room).slots) := by
  refine MetFree.of_bodySF (Jvm.Free.JP.mathPlain rfl (by decide +kernel)) hisR ?_
  intro p e s m args below meth c s₁ Bd hml0 hP hK
  obtain ⟨rfl, hZ, hh⟩ := hP
  have hx := Bd.exec
  have hby := Bd.bytes
  have hml : c.maxLocals = 2 := hml0
  have hown : s.vm.findClass "java/lang/Math" = some m.cls := findClass_of_methodNamed Bd.named
  have hnm := (name_of_methodNamed Bd.named Bd.method).1
  have X0 : Stand p l e ({ frames := 0, cells := 0, slots := 0, locals := 0 } : Room) s m #[(.int p0), (.int p1)] below meth c s₁ [] 0 0 := Stand.of_body Bd
  have e0 : s₁.heap = h0 := by rw [← hh, Bd.state]; rfl
  have N0 := Fr.nil n0
  have pre0 : ∀ t, Steps p.tables e below (s₁.setTop (mkF m 0 #[.val (.int p0), .val (.int p1)] [])) t → Steps p.tables e below (s₁.setTop (entryFrame m #[(.int p0), (.int p1)] 2)) t := fun t k => castTop (ef_2 m p0 p1) k
  show Done p e below _ _
  refine Done.of ?_ pre0
  have J2_1 : ∀ wj : Int32, wj = (if p0 < p1 then p1 else p0) → ∀ target, Steps p.tables e below (s₁.setTop (mkF m 10 #[.val (.int p0), .val (.int p1)] [(.int wj)])) target → Steps p.tables e below (s₁.setTop (mkF m 2 #[.val (.int p0), .val (.int p1)] [(.int p1), (.int p0)])) target := by
    intro wj hw0 target kt
    by_cases hj2 : p0 < p1
    · rw [if_pos hj2] at hw0
      show Steps p.tables e below (s₁.setTop (mkF m 2 #[.val (.int p0), .val (.int p1)] [(.int p1), (.int p0)])) _
      refine XS.icmpYes X0.here hx rfl (pc0 := 2) (pc' := 9) rfl (hb hby d2_2) rfl (tlt hj2).1 (by decide) (by decide) ?_
      show Steps p.tables e below (s₁.setTop (mkF m 9 #[.val (.int p0), .val (.int p1)] [])) _
      refine XS.iloadN X0.here hx rfl (hb hby d2_9) rfl ?_
      rw [hw0] at kt
      exact kt
    · rw [if_neg hj2] at hw0
      show Steps p.tables e below (s₁.setTop (mkF m 2 #[.val (.int p0), .val (.int p1)] [(.int p1), (.int p0)])) _
      refine XS.icmpNo X0.here hx rfl (hb hby d2_2) rfl (flt hj2).1 ?_
      show Steps p.tables e below (s₁.setTop (mkF m 5 #[.val (.int p0), .val (.int p1)] [])) _
      refine XS.iloadN X0.here hx rfl (hb hby d2_5) rfl ?_
      show Steps p.tables e below (s₁.setTop (mkF m 6 #[.val (.int p0), .val (.int p1)] [(.int p0)])) _
      refine XS.goto X0.here hx rfl (pc0 := 6) (pc' := 10) rfl (hb hby d2_6) (by decide) (by decide) ?_
      rw [hw0] at kt
      exact kt
  obtain ⟨fs, hr, hrun, hended, hW, hsame⟩ := X0.leave (v := some (.int (if p0 < p1 then p1 else p0))) (fun h => by rw [Bd.returns] at h; cases h)
  refine ⟨_, _, ?_, hrun, hended, _, _, rfl, ?_, ⟨_, rfl⟩, hW, hsame.mono (by decide) (by decide)⟩
  · show Steps p.tables e below (s₁.setTop (mkF m 0 #[.val (.int p0), .val (.int p1)] [])) _
    refine XS.iloadN X0.here hx rfl (hb hby d2_0) rfl ?_
    show Steps p.tables e below (s₁.setTop (mkF m 1 #[.val (.int p0), .val (.int p1)] [(.int p0)])) _
    refine XS.iloadN X0.here hx rfl (hb hby d2_1) rfl ?_
    show Steps p.tables e below (s₁.setTop (mkF m 2 #[.val (.int p0), .val (.int p1)] [(.int p1), (.int p0)])) _
    refine J2_1 _ rfl _ ?_
    show Steps p.tables e below (s₁.setTop (mkF m 10 #[.val (.int p0), .val (.int p1)] [(.int (if p0 < p1 then p1 else p0))])) _
    exact retI X0 hx Bd.returns (hb hby d2_10) hr
  · show Q2 Z p0 p1  h0 n0 _ s₁.heap _
    rw [e0]
    refine ⟨?_, N0, rfl⟩
    rfl
theorem d3_0 : decode jdk_33_method_47_code 0 = .ok (.iload_n 0, 1) := by decide +kernel
theorem d3_1 : decode jdk_33_method_47_code 1 = .ok (.ifCond .gt 14, 3) := by decide +kernel
theorem d3_15 : decode jdk_33_method_47_code 15 = .ok (.bipush 31, 2) := by decide +kernel
theorem d3_17 : decode jdk_33_method_47_code 17 = .ok (.istore_n 1, 1) := by decide +kernel
theorem d3_18 : decode jdk_33_method_47_code 18 = .ok (.iload_n 0, 1) := by decide +kernel
theorem d3_19 : decode jdk_33_method_47_code 19 = .ok (.ldc_w 264, 3) := by decide +kernel
theorem d3_22 : decode jdk_33_method_47_code 22 = .ok (.if_icmp .lt 11, 3) := by decide +kernel
theorem d3_25 : decode jdk_33_method_47_code 25 = .ok (.iinc 1 (-16), 3) := by decide +kernel
theorem d3_28 : decode jdk_33_method_47_code 28 = .ok (.iload_n 0, 1) := by decide +kernel
theorem d3_29 : decode jdk_33_method_47_code 29 = .ok (.bipush 16, 2) := by decide +kernel
theorem d3_31 : decode jdk_33_method_47_code 31 = .ok (.iushr, 1) := by decide +kernel
theorem d3_32 : decode jdk_33_method_47_code 32 = .ok (.istore_n 0, 1) := by decide +kernel
theorem d3_33 : decode jdk_33_method_47_code 33 = .ok (.iload_n 0, 1) := by decide +kernel
theorem d3_34 : decode jdk_33_method_47_code 34 = .ok (.sipush 256, 3) := by decide +kernel
theorem d3_37 : decode jdk_33_method_47_code 37 = .ok (.if_icmp .lt 11, 3) := by decide +kernel
theorem d3_40 : decode jdk_33_method_47_code 40 = .ok (.iinc 1 (-8), 3) := by decide +kernel
theorem d3_43 : decode jdk_33_method_47_code 43 = .ok (.iload_n 0, 1) := by decide +kernel
theorem d3_44 : decode jdk_33_method_47_code 44 = .ok (.bipush 8, 2) := by decide +kernel
theorem d3_46 : decode jdk_33_method_47_code 46 = .ok (.iushr, 1) := by decide +kernel
theorem d3_47 : decode jdk_33_method_47_code 47 = .ok (.istore_n 0, 1) := by decide +kernel
theorem d3_48 : decode jdk_33_method_47_code 48 = .ok (.iload_n 0, 1) := by decide +kernel
theorem d3_49 : decode jdk_33_method_47_code 49 = .ok (.bipush 16, 2) := by decide +kernel
theorem d3_51 : decode jdk_33_method_47_code 51 = .ok (.if_icmp .lt 10, 3) := by decide +kernel
theorem d3_54 : decode jdk_33_method_47_code 54 = .ok (.iinc 1 (-4), 3) := by decide +kernel
theorem d3_57 : decode jdk_33_method_47_code 57 = .ok (.iload_n 0, 1) := by decide +kernel
theorem d3_58 : decode jdk_33_method_47_code 58 = .ok (.iconst 4, 1) := by decide +kernel
theorem d3_59 : decode jdk_33_method_47_code 59 = .ok (.iushr, 1) := by decide +kernel
theorem d3_60 : decode jdk_33_method_47_code 60 = .ok (.istore_n 0, 1) := by decide +kernel
theorem d3_61 : decode jdk_33_method_47_code 61 = .ok (.iload_n 0, 1) := by decide +kernel
theorem d3_62 : decode jdk_33_method_47_code 62 = .ok (.iconst 4, 1) := by decide +kernel
theorem d3_63 : decode jdk_33_method_47_code 63 = .ok (.if_icmp .lt 10, 3) := by decide +kernel
theorem d3_66 : decode jdk_33_method_47_code 66 = .ok (.iinc 1 (-2), 3) := by decide +kernel
theorem d3_69 : decode jdk_33_method_47_code 69 = .ok (.iload_n 0, 1) := by decide +kernel
theorem d3_70 : decode jdk_33_method_47_code 70 = .ok (.iconst 2, 1) := by decide +kernel
theorem d3_71 : decode jdk_33_method_47_code 71 = .ok (.iushr, 1) := by decide +kernel
theorem d3_72 : decode jdk_33_method_47_code 72 = .ok (.istore_n 0, 1) := by decide +kernel
theorem d3_73 : decode jdk_33_method_47_code 73 = .ok (.iload_n 1, 1) := by decide +kernel
theorem d3_74 : decode jdk_33_method_47_code 74 = .ok (.iload_n 0, 1) := by decide +kernel
theorem d3_75 : decode jdk_33_method_47_code 75 = .ok (.iconst 1, 1) := by decide +kernel
theorem d3_76 : decode jdk_33_method_47_code 76 = .ok (.iushr, 1) := by decide +kernel
theorem d3_77 : decode jdk_33_method_47_code 77 = .ok (.isub, 1) := by decide +kernel
theorem d3_78 : decode jdk_33_method_47_code 78 = .ok (.ireturn, 1) := by decide +kernel
theorem pn_3 : plainName "java/lang/Integer" = true := by first | (simp [plainName, overriddenIn]; done) | decide +kernel
theorem ef_3 (m : MethodId) (p0 : Int32)  : entryFrame m #[(.int p0)] 2 = mkF m 0 #[.val (.int p0), .unset] [] := by first | (simp [entryFrame, mkF, argsToLocals, Value.category]; done) | rfl
def Q3 (Z : State) (p0 : Int32) (h0 : Heap) (n0 : Nat) (v : Option Value) (h : Heap) (L : List Loc) : Prop := ∃ (z : Int32) (k : Nat), v = some (.int z) ∧ Fr n0 L ∧ h = h0 ∧ z.toInt = 31 - (k : Int) ∧ k ≤ 30 ∧ (2 : Int) ^ k ≤ p0.toInt ∧ p0.toInt < (2 : Int) ^ (k + 1)
set_option maxRecDepth 65536 in
set_option maxHeartbeats 40000000 in
theorem rm3 (l : Launch) (Z : State) (a0 : Array Value) (hw : ∀ d ∈ tables_1, d.before a0 Z = true) (ws : List Jvm.Cond) (p0 : Int32) (h0 : Heap) (n0 : Nat) (Z0 : n0 ≤ h0.size) (hp : (0 : Int32) < p0) :
    MetFree l (⟨"java/lang/Integer", "numberOfLeadingZeros", "(I)I"⟩ : MethodName) (head1 (Jvm.Cond.code (⟨"java/lang/Integer", "numberOfLeadingZeros", "(I)I"⟩ : MethodName) jdk_33_method_47_code 2 (some .int) :: ws) ({ frames := 0, cells := 0, slots := 0, locals := 0 } : Room)) (fun a U => a = #[(.int p0)] ∧ Z.Warmed39 U.vm ∧ U.heap = h0) (fun _ _ _ _ _ => True) (fun _ U o U' => ∃ v L, o = .returned v ∧ Q3 Z p0 h0 n0 v U'.heap L ∧ FrameEnd U o U' L ({ frames := 0, cells := 0, slots := 0, locals := 0 } : Room).cells ({ frames := 0, cells := 0, slots := 0, locals := 0 } : Room).slots) := by
  refine MetFree.of_bodySF (plainFor_of_name pn_3) hisR ?_
  intro p e s m args below meth c s₁ Bd hml0 hP hK
  obtain ⟨rfl, hZ, hh⟩ := hP
  have hx := Bd.exec
  have hby := Bd.bytes
  have hml : c.maxLocals = 2 := hml0
  have hown : s.vm.findClass "java/lang/Integer" = some m.cls := findClass_of_methodNamed Bd.named
  have hnm := (name_of_methodNamed Bd.named Bd.method).1
  have X0 : Stand p l e ({ frames := 0, cells := 0, slots := 0, locals := 0 } : Room) s m #[(.int p0)] below meth c s₁ [] 0 0 := Stand.of_body Bd
  have e0 : s₁.heap = h0 := by rw [← hh, Bd.state]; rfl
  have N0 := Fr.nil n0
  have pre0 : ∀ t, Steps p.tables e below (s₁.setTop (mkF m 0 #[.val (.int p0), .unset] [])) t → Steps p.tables e below (s₁.setTop (entryFrame m #[(.int p0)] 2)) t := fun t k => castTop (ef_3 m p0) k
  show Done p e below _ _
  refine Done.of ?_ pre0
  have hd1_1 : (0 : Int32) < p0 := by exact hp
  have K2 : ∀ target, Steps p.tables e below (s₁.setTop (mkF m 22 #[.val (.int p0), .val (.int (31 : Int32))] [(.int (65536 : Int32)), (.int p0)])) target → Steps p.tables e below (s₁.setTop (mkF m 0 #[.val (.int p0), .unset] [])) target := by
    intro target kt
    show Steps p.tables e below (s₁.setTop (mkF m 0 #[.val (.int p0), .unset] [])) _
    refine XS.iloadN X0.here hx rfl (hb hby d3_0) rfl ?_
    show Steps p.tables e below (s₁.setTop (mkF m 1 #[.val (.int p0), .unset] [(.int p0)])) _
    refine XS.ifYes X0.here hx rfl (pc0 := 1) (pc' := 15) rfl (hb hby d3_1) rfl ((if0 _ _).trans (tlt hd1_1).2.2.1) (by decide) (by decide) ?_
    show Steps p.tables e below (s₁.setTop (mkF m 15 #[.val (.int p0), .unset] [])) _
    refine XS.bipush X0.here hx rfl (hb hby d3_15) ?_
    show Steps p.tables e below (s₁.setTop (mkF m 17 #[.val (.int p0), .unset] [(.int (31 : Int32))])) _
    refine XS.istoreN X0.here hx rfl (hb hby d3_17) rfl (l' := #[.val (.int p0), .val (.int (31 : Int32))]) rfl ?_
    show Steps p.tables e below (s₁.setTop (mkF m 18 #[.val (.int p0), .val (.int (31 : Int32))] [])) _
    refine XS.iloadN X0.here hx rfl (hb hby d3_18) rfl ?_
    show Steps p.tables e below (s₁.setTop (mkF m 19 #[.val (.int p0), .val (.int (31 : Int32))] [(.int p0)])) _
    refine X0.ldcwInt hx hown (mvT hZ (hw _ (List.mem_of_getElem? (i := 13) rfl))) (g := (mkF m 19 #[.val (.int p0), .val (.int (31 : Int32))] [(.int p0)])) rfl (hb hby d3_19) _ ?_
    exact kt
  refine Done.of ?_ K2
  by_cases hc22_3 : p0 < (65536 : Int32)
  · have K : ∀ target, Steps p.tables e below (s₁.setTop (mkF m 33 #[.val (.int p0), .val (.int (31 : Int32))] [])) target → Steps p.tables e below (s₁.setTop (mkF m 22 #[.val (.int p0), .val (.int (31 : Int32))] [(.int (65536 : Int32)), (.int p0)])) target := by
      intro target kt
      refine XS.icmpYes X0.here hx rfl (pc0 := 22) (pc' := 33) rfl (hb hby d3_22) rfl (tlt hc22_3).1 (by decide) (by decide) ?_
      exact kt
    refine Done.of ?_ K
    have K4 : ∀ target, Steps p.tables e below (s₁.setTop (mkF m 37 #[.val (.int p0), .val (.int (31 : Int32))] [(.int (256 : Int32)), (.int p0)])) target → Steps p.tables e below (s₁.setTop (mkF m 33 #[.val (.int p0), .val (.int (31 : Int32))] [])) target := by
      intro target kt
      show Steps p.tables e below (s₁.setTop (mkF m 33 #[.val (.int p0), .val (.int (31 : Int32))] [])) _
      refine XS.iloadN X0.here hx rfl (hb hby d3_33) rfl ?_
      show Steps p.tables e below (s₁.setTop (mkF m 34 #[.val (.int p0), .val (.int (31 : Int32))] [(.int p0)])) _
      refine XS.sipush X0.here hx rfl (hb hby d3_34) ?_
      exact kt
    refine Done.of ?_ K4
    by_cases hc37_5 : p0 < (256 : Int32)
    · have K : ∀ target, Steps p.tables e below (s₁.setTop (mkF m 48 #[.val (.int p0), .val (.int (31 : Int32))] [])) target → Steps p.tables e below (s₁.setTop (mkF m 37 #[.val (.int p0), .val (.int (31 : Int32))] [(.int (256 : Int32)), (.int p0)])) target := by
        intro target kt
        refine XS.icmpYes X0.here hx rfl (pc0 := 37) (pc' := 48) rfl (hb hby d3_37) rfl (tlt hc37_5).1 (by decide) (by decide) ?_
        exact kt
      refine Done.of ?_ K
      have K6 : ∀ target, Steps p.tables e below (s₁.setTop (mkF m 51 #[.val (.int p0), .val (.int (31 : Int32))] [(.int (16 : Int32)), (.int p0)])) target → Steps p.tables e below (s₁.setTop (mkF m 48 #[.val (.int p0), .val (.int (31 : Int32))] [])) target := by
        intro target kt
        show Steps p.tables e below (s₁.setTop (mkF m 48 #[.val (.int p0), .val (.int (31 : Int32))] [])) _
        refine XS.iloadN X0.here hx rfl (hb hby d3_48) rfl ?_
        show Steps p.tables e below (s₁.setTop (mkF m 49 #[.val (.int p0), .val (.int (31 : Int32))] [(.int p0)])) _
        refine XS.bipush X0.here hx rfl (hb hby d3_49) ?_
        exact kt
      refine Done.of ?_ K6
      by_cases hc51_7 : p0 < (16 : Int32)
      · have K : ∀ target, Steps p.tables e below (s₁.setTop (mkF m 61 #[.val (.int p0), .val (.int (31 : Int32))] [])) target → Steps p.tables e below (s₁.setTop (mkF m 51 #[.val (.int p0), .val (.int (31 : Int32))] [(.int (16 : Int32)), (.int p0)])) target := by
          intro target kt
          refine XS.icmpYes X0.here hx rfl (pc0 := 51) (pc' := 61) rfl (hb hby d3_51) rfl (tlt hc51_7).1 (by decide) (by decide) ?_
          exact kt
        refine Done.of ?_ K
        have K8 : ∀ target, Steps p.tables e below (s₁.setTop (mkF m 63 #[.val (.int p0), .val (.int (31 : Int32))] [(.int (4 : Int32)), (.int p0)])) target → Steps p.tables e below (s₁.setTop (mkF m 61 #[.val (.int p0), .val (.int (31 : Int32))] [])) target := by
          intro target kt
          show Steps p.tables e below (s₁.setTop (mkF m 61 #[.val (.int p0), .val (.int (31 : Int32))] [])) _
          refine XS.iloadN X0.here hx rfl (hb hby d3_61) rfl ?_
          show Steps p.tables e below (s₁.setTop (mkF m 62 #[.val (.int p0), .val (.int (31 : Int32))] [(.int p0)])) _
          refine XS.iconst X0.here hx rfl (hb hby d3_62) ?_
          exact kt
        refine Done.of ?_ K8
        by_cases hc63_9 : p0 < (4 : Int32)
        · have K : ∀ target, Steps p.tables e below (s₁.setTop (mkF m 73 #[.val (.int p0), .val (.int (31 : Int32))] [])) target → Steps p.tables e below (s₁.setTop (mkF m 63 #[.val (.int p0), .val (.int (31 : Int32))] [(.int (4 : Int32)), (.int p0)])) target := by
            intro target kt
            refine XS.icmpYes X0.here hx rfl (pc0 := 63) (pc' := 73) rfl (hb hby d3_63) rfl (tlt hc63_9).1 (by decide) (by decide) ?_
            exact kt
          refine Done.of ?_ K
          obtain ⟨fs, hr, hrun, hended, hW, hsame⟩ := X0.leave (v := some (.int ((31 : Int32) - ((p0.toUInt32 >>> ((1 : Int32) &&& 31).toUInt32).toInt32)))) (fun h => by rw [Bd.returns] at h; cases h)
          refine ⟨_, _, ?_, hrun, hended, _, _, rfl, ?_, ⟨_, rfl⟩, hW, hsame.mono (by decide) (by decide)⟩
          · show Steps p.tables e below (s₁.setTop (mkF m 73 #[.val (.int p0), .val (.int (31 : Int32))] [])) _
            refine XS.iloadN X0.here hx rfl (hb hby d3_73) rfl ?_
            show Steps p.tables e below (s₁.setTop (mkF m 74 #[.val (.int p0), .val (.int (31 : Int32))] [(.int (31 : Int32))])) _
            refine XS.iloadN X0.here hx rfl (hb hby d3_74) rfl ?_
            show Steps p.tables e below (s₁.setTop (mkF m 75 #[.val (.int p0), .val (.int (31 : Int32))] [(.int p0), (.int (31 : Int32))])) _
            refine XS.iconst X0.here hx rfl (hb hby d3_75) ?_
            show Steps p.tables e below (s₁.setTop (mkF m 76 #[.val (.int p0), .val (.int (31 : Int32))] [(.int (1 : Int32)), (.int p0), (.int (31 : Int32))])) _
            refine XS.iushr X0.here hx rfl (hb hby d3_76) rfl ?_
            show Steps p.tables e below (s₁.setTop (mkF m 77 #[.val (.int p0), .val (.int (31 : Int32))] [(.int ((p0.toUInt32 >>> ((1 : Int32) &&& 31).toUInt32).toInt32)), (.int (31 : Int32))])) _
            refine XS.isub X0.here hx rfl (hb hby d3_77) rfl ?_
            show Steps p.tables e below (s₁.setTop (mkF m 78 #[.val (.int p0), .val (.int (31 : Int32))] [(.int ((31 : Int32) - ((p0.toUInt32 >>> ((1 : Int32) &&& 31).toUInt32).toInt32)))])) _
            exact retI X0 hx Bd.returns (hb hby d3_78) hr
          · show Q3 Z p0  h0 n0 _ s₁.heap _
            rw [e0]
            have r := rng32 p0
            have hp' := Int32.lt_iff_toInt_lt.mp hp
            rw [own_z0] at hp'
            have k22 := Int32.lt_iff_toInt_lt.mp hc22_3
            rw [show (65536 : Int32).toInt = 65536 from by decide] at k22
            have k37 := Int32.lt_iff_toInt_lt.mp hc37_5
            rw [show (256 : Int32).toInt = 256 from by decide] at k37
            have k51 := Int32.lt_iff_toInt_lt.mp hc51_7
            rw [show (16 : Int32).toInt = 16 from by decide] at k51
            have k63 := Int32.lt_iff_toInt_lt.mp hc63_9
            rw [show (4 : Int32).toInt = 4 from by decide] at k63
            have sf := own_sh p0 (1 : Int32) 1 2 (by decide) (by decide) (by decide) (by omega)
            have hl : ((31 : Int32)).toInt = 31 := by decide
            have hs := c_isub ((31 : Int32)) ((p0.toUInt32 >>> ((1 : Int32) &&& 31).toUInt32).toInt32)
            have hr := rng32 ((31 : Int32) - ((p0.toUInt32 >>> ((1 : Int32) &&& 31).toUInt32).toInt32))
            by_cases hy : p0.toInt < 2
            · refine ⟨_, 0, rfl, N0, rfl, ?_, ?_, ?_, ?_⟩ <;> omega
            · refine ⟨_, 1, rfl, N0, rfl, ?_, ?_, ?_, ?_⟩ <;> omega
        · have K : ∀ target, Steps p.tables e below (s₁.setTop (mkF m 66 #[.val (.int p0), .val (.int (31 : Int32))] [])) target → Steps p.tables e below (s₁.setTop (mkF m 63 #[.val (.int p0), .val (.int (31 : Int32))] [(.int (4 : Int32)), (.int p0)])) target := by
            intro target kt
            refine XS.icmpNo X0.here hx rfl (hb hby d3_63) rfl (flt hc63_9).1 ?_
            exact kt
          refine Done.of ?_ K
          obtain ⟨v10, ev10⟩ : ∃ z : Int32, z = ((p0.toUInt32 >>> ((2 : Int32) &&& 31).toUInt32).toInt32) := ⟨_, rfl⟩
          obtain ⟨fs, hr, hrun, hended, hW, hsame⟩ := X0.leave (v := some (.int ((29 : Int32) - ((v10.toUInt32 >>> ((1 : Int32) &&& 31).toUInt32).toInt32)))) (fun h => by rw [Bd.returns] at h; cases h)
          refine ⟨_, _, ?_, hrun, hended, _, _, rfl, ?_, ⟨_, rfl⟩, hW, hsame.mono (by decide) (by decide)⟩
          · show Steps p.tables e below (s₁.setTop (mkF m 66 #[.val (.int p0), .val (.int (31 : Int32))] [])) _
            refine XS.iinc X0.here hx rfl (hb hby d3_66) rfl (l' := #[.val (.int p0), .val (.int ((31 : Int32) + (-2 : Int32)))]) rfl ?_
            rw [show ((31 : Int32) + (-2 : Int32)) = (29 : Int32) from by decide]
            show Steps p.tables e below (s₁.setTop (mkF m 69 #[.val (.int p0), .val (.int (29 : Int32))] [])) _
            refine XS.iloadN X0.here hx rfl (hb hby d3_69) rfl ?_
            show Steps p.tables e below (s₁.setTop (mkF m 70 #[.val (.int p0), .val (.int (29 : Int32))] [(.int p0)])) _
            refine XS.iconst X0.here hx rfl (hb hby d3_70) ?_
            show Steps p.tables e below (s₁.setTop (mkF m 71 #[.val (.int p0), .val (.int (29 : Int32))] [(.int (2 : Int32)), (.int p0)])) _
            refine XS.iushr X0.here hx rfl (hb hby d3_71) rfl ?_
            show Steps p.tables e below (s₁.setTop (mkF m 72 #[.val (.int p0), .val (.int (29 : Int32))] [(.int ((p0.toUInt32 >>> ((2 : Int32) &&& 31).toUInt32).toInt32))])) _
            rw [← ev10]
            show Steps p.tables e below (s₁.setTop (mkF m 72 #[.val (.int p0), .val (.int (29 : Int32))] [(.int v10)])) _
            refine XS.istoreN X0.here hx rfl (hb hby d3_72) rfl (l' := #[.val (.int v10), .val (.int (29 : Int32))]) rfl ?_
            show Steps p.tables e below (s₁.setTop (mkF m 73 #[.val (.int v10), .val (.int (29 : Int32))] [])) _
            refine XS.iloadN X0.here hx rfl (hb hby d3_73) rfl ?_
            show Steps p.tables e below (s₁.setTop (mkF m 74 #[.val (.int v10), .val (.int (29 : Int32))] [(.int (29 : Int32))])) _
            refine XS.iloadN X0.here hx rfl (hb hby d3_74) rfl ?_
            show Steps p.tables e below (s₁.setTop (mkF m 75 #[.val (.int v10), .val (.int (29 : Int32))] [(.int v10), (.int (29 : Int32))])) _
            refine XS.iconst X0.here hx rfl (hb hby d3_75) ?_
            show Steps p.tables e below (s₁.setTop (mkF m 76 #[.val (.int v10), .val (.int (29 : Int32))] [(.int (1 : Int32)), (.int v10), (.int (29 : Int32))])) _
            refine XS.iushr X0.here hx rfl (hb hby d3_76) rfl ?_
            show Steps p.tables e below (s₁.setTop (mkF m 77 #[.val (.int v10), .val (.int (29 : Int32))] [(.int ((v10.toUInt32 >>> ((1 : Int32) &&& 31).toUInt32).toInt32)), (.int (29 : Int32))])) _
            refine XS.isub X0.here hx rfl (hb hby d3_77) rfl ?_
            show Steps p.tables e below (s₁.setTop (mkF m 78 #[.val (.int v10), .val (.int (29 : Int32))] [(.int ((29 : Int32) - ((v10.toUInt32 >>> ((1 : Int32) &&& 31).toUInt32).toInt32)))])) _
            exact retI X0 hx Bd.returns (hb hby d3_78) hr
          · show Q3 Z p0  h0 n0 _ s₁.heap _
            rw [e0]
            have r := rng32 p0
            have hp' := Int32.lt_iff_toInt_lt.mp hp
            rw [own_z0] at hp'
            have k22 := Int32.lt_iff_toInt_lt.mp hc22_3
            rw [show (65536 : Int32).toInt = 65536 from by decide] at k22
            have k37 := Int32.lt_iff_toInt_lt.mp hc37_5
            rw [show (256 : Int32).toInt = 256 from by decide] at k37
            have k51 := Int32.lt_iff_toInt_lt.mp hc51_7
            rw [show (16 : Int32).toInt = 16 from by decide] at k51
            have k63 := mt Int32.lt_iff_toInt_lt.mpr hc63_9
            rw [show (4 : Int32).toInt = 4 from by decide] at k63
            have s63 := own_sh p0 (2 : Int32) 2 4 (by decide) (by decide) (by decide) (by omega)
            rw [← ev10] at s63
            have sf := own_sh v10 (1 : Int32) 1 2 (by decide) (by decide) (by decide) (by omega)
            have hl : ((29 : Int32)).toInt = 29 := by decide
            have hs := c_isub ((29 : Int32)) ((v10.toUInt32 >>> ((1 : Int32) &&& 31).toUInt32).toInt32)
            have hr := rng32 ((29 : Int32) - ((v10.toUInt32 >>> ((1 : Int32) &&& 31).toUInt32).toInt32))
            by_cases hy : v10.toInt < 2
            · refine ⟨_, 2, rfl, N0, rfl, ?_, ?_, ?_, ?_⟩ <;> omega
            · refine ⟨_, 3, rfl, N0, rfl, ?_, ?_, ?_, ?_⟩ <;> omega
      · have K : ∀ target, Steps p.tables e below (s₁.setTop (mkF m 54 #[.val (.int p0), .val (.int (31 : Int32))] [])) target → Steps p.tables e below (s₁.setTop (mkF m 51 #[.val (.int p0), .val (.int (31 : Int32))] [(.int (16 : Int32)), (.int p0)])) target := by
          intro target kt
          refine XS.icmpNo X0.here hx rfl (hb hby d3_51) rfl (flt hc51_7).1 ?_
          exact kt
        refine Done.of ?_ K
        obtain ⟨v11, ev11⟩ : ∃ z : Int32, z = ((p0.toUInt32 >>> ((4 : Int32) &&& 31).toUInt32).toInt32) := ⟨_, rfl⟩
        have K12 : ∀ target, Steps p.tables e below (s₁.setTop (mkF m 63 #[.val (.int v11), .val (.int (27 : Int32))] [(.int (4 : Int32)), (.int v11)])) target → Steps p.tables e below (s₁.setTop (mkF m 54 #[.val (.int p0), .val (.int (31 : Int32))] [])) target := by
          intro target kt
          show Steps p.tables e below (s₁.setTop (mkF m 54 #[.val (.int p0), .val (.int (31 : Int32))] [])) _
          refine XS.iinc X0.here hx rfl (hb hby d3_54) rfl (l' := #[.val (.int p0), .val (.int ((31 : Int32) + (-4 : Int32)))]) rfl ?_
          rw [show ((31 : Int32) + (-4 : Int32)) = (27 : Int32) from by decide]
          show Steps p.tables e below (s₁.setTop (mkF m 57 #[.val (.int p0), .val (.int (27 : Int32))] [])) _
          refine XS.iloadN X0.here hx rfl (hb hby d3_57) rfl ?_
          show Steps p.tables e below (s₁.setTop (mkF m 58 #[.val (.int p0), .val (.int (27 : Int32))] [(.int p0)])) _
          refine XS.iconst X0.here hx rfl (hb hby d3_58) ?_
          show Steps p.tables e below (s₁.setTop (mkF m 59 #[.val (.int p0), .val (.int (27 : Int32))] [(.int (4 : Int32)), (.int p0)])) _
          refine XS.iushr X0.here hx rfl (hb hby d3_59) rfl ?_
          show Steps p.tables e below (s₁.setTop (mkF m 60 #[.val (.int p0), .val (.int (27 : Int32))] [(.int ((p0.toUInt32 >>> ((4 : Int32) &&& 31).toUInt32).toInt32))])) _
          rw [← ev11]
          show Steps p.tables e below (s₁.setTop (mkF m 60 #[.val (.int p0), .val (.int (27 : Int32))] [(.int v11)])) _
          refine XS.istoreN X0.here hx rfl (hb hby d3_60) rfl (l' := #[.val (.int v11), .val (.int (27 : Int32))]) rfl ?_
          show Steps p.tables e below (s₁.setTop (mkF m 61 #[.val (.int v11), .val (.int (27 : Int32))] [])) _
          refine XS.iloadN X0.here hx rfl (hb hby d3_61) rfl ?_
          show Steps p.tables e below (s₁.setTop (mkF m 62 #[.val (.int v11), .val (.int (27 : Int32))] [(.int v11)])) _
          refine XS.iconst X0.here hx rfl (hb hby d3_62) ?_
          exact kt
        refine Done.of ?_ K12
        by_cases hc63_13 : v11 < (4 : Int32)
        · have K : ∀ target, Steps p.tables e below (s₁.setTop (mkF m 73 #[.val (.int v11), .val (.int (27 : Int32))] [])) target → Steps p.tables e below (s₁.setTop (mkF m 63 #[.val (.int v11), .val (.int (27 : Int32))] [(.int (4 : Int32)), (.int v11)])) target := by
            intro target kt
            refine XS.icmpYes X0.here hx rfl (pc0 := 63) (pc' := 73) rfl (hb hby d3_63) rfl (tlt hc63_13).1 (by decide) (by decide) ?_
            exact kt
          refine Done.of ?_ K
          obtain ⟨fs, hr, hrun, hended, hW, hsame⟩ := X0.leave (v := some (.int ((27 : Int32) - ((v11.toUInt32 >>> ((1 : Int32) &&& 31).toUInt32).toInt32)))) (fun h => by rw [Bd.returns] at h; cases h)
          refine ⟨_, _, ?_, hrun, hended, _, _, rfl, ?_, ⟨_, rfl⟩, hW, hsame.mono (by decide) (by decide)⟩
          · show Steps p.tables e below (s₁.setTop (mkF m 73 #[.val (.int v11), .val (.int (27 : Int32))] [])) _
            refine XS.iloadN X0.here hx rfl (hb hby d3_73) rfl ?_
            show Steps p.tables e below (s₁.setTop (mkF m 74 #[.val (.int v11), .val (.int (27 : Int32))] [(.int (27 : Int32))])) _
            refine XS.iloadN X0.here hx rfl (hb hby d3_74) rfl ?_
            show Steps p.tables e below (s₁.setTop (mkF m 75 #[.val (.int v11), .val (.int (27 : Int32))] [(.int v11), (.int (27 : Int32))])) _
            refine XS.iconst X0.here hx rfl (hb hby d3_75) ?_
            show Steps p.tables e below (s₁.setTop (mkF m 76 #[.val (.int v11), .val (.int (27 : Int32))] [(.int (1 : Int32)), (.int v11), (.int (27 : Int32))])) _
            refine XS.iushr X0.here hx rfl (hb hby d3_76) rfl ?_
            show Steps p.tables e below (s₁.setTop (mkF m 77 #[.val (.int v11), .val (.int (27 : Int32))] [(.int ((v11.toUInt32 >>> ((1 : Int32) &&& 31).toUInt32).toInt32)), (.int (27 : Int32))])) _
            refine XS.isub X0.here hx rfl (hb hby d3_77) rfl ?_
            show Steps p.tables e below (s₁.setTop (mkF m 78 #[.val (.int v11), .val (.int (27 : Int32))] [(.int ((27 : Int32) - ((v11.toUInt32 >>> ((1 : Int32) &&& 31).toUInt32).toInt32)))])) _
            exact retI X0 hx Bd.returns (hb hby d3_78) hr
          · show Q3 Z p0  h0 n0 _ s₁.heap _
            rw [e0]
            have r := rng32 p0
            have hp' := Int32.lt_iff_toInt_lt.mp hp
            rw [own_z0] at hp'
            have k22 := Int32.lt_iff_toInt_lt.mp hc22_3
            rw [show (65536 : Int32).toInt = 65536 from by decide] at k22
            have k37 := Int32.lt_iff_toInt_lt.mp hc37_5
            rw [show (256 : Int32).toInt = 256 from by decide] at k37
            have k51 := mt Int32.lt_iff_toInt_lt.mpr hc51_7
            rw [show (16 : Int32).toInt = 16 from by decide] at k51
            have s51 := own_sh p0 (4 : Int32) 4 16 (by decide) (by decide) (by decide) (by omega)
            rw [← ev11] at s51
            have k63 := Int32.lt_iff_toInt_lt.mp hc63_13
            rw [show (4 : Int32).toInt = 4 from by decide] at k63
            have sf := own_sh v11 (1 : Int32) 1 2 (by decide) (by decide) (by decide) (by omega)
            have hl : ((27 : Int32)).toInt = 27 := by decide
            have hs := c_isub ((27 : Int32)) ((v11.toUInt32 >>> ((1 : Int32) &&& 31).toUInt32).toInt32)
            have hr := rng32 ((27 : Int32) - ((v11.toUInt32 >>> ((1 : Int32) &&& 31).toUInt32).toInt32))
            by_cases hy : v11.toInt < 2
            · refine ⟨_, 4, rfl, N0, rfl, ?_, ?_, ?_, ?_⟩ <;> omega
            · refine ⟨_, 5, rfl, N0, rfl, ?_, ?_, ?_, ?_⟩ <;> omega
        · have K : ∀ target, Steps p.tables e below (s₁.setTop (mkF m 66 #[.val (.int v11), .val (.int (27 : Int32))] [])) target → Steps p.tables e below (s₁.setTop (mkF m 63 #[.val (.int v11), .val (.int (27 : Int32))] [(.int (4 : Int32)), (.int v11)])) target := by
            intro target kt
            refine XS.icmpNo X0.here hx rfl (hb hby d3_63) rfl (flt hc63_13).1 ?_
            exact kt
          refine Done.of ?_ K
          obtain ⟨v14, ev14⟩ : ∃ z : Int32, z = ((v11.toUInt32 >>> ((2 : Int32) &&& 31).toUInt32).toInt32) := ⟨_, rfl⟩
          obtain ⟨fs, hr, hrun, hended, hW, hsame⟩ := X0.leave (v := some (.int ((25 : Int32) - ((v14.toUInt32 >>> ((1 : Int32) &&& 31).toUInt32).toInt32)))) (fun h => by rw [Bd.returns] at h; cases h)
          refine ⟨_, _, ?_, hrun, hended, _, _, rfl, ?_, ⟨_, rfl⟩, hW, hsame.mono (by decide) (by decide)⟩
          · show Steps p.tables e below (s₁.setTop (mkF m 66 #[.val (.int v11), .val (.int (27 : Int32))] [])) _
            refine XS.iinc X0.here hx rfl (hb hby d3_66) rfl (l' := #[.val (.int v11), .val (.int ((27 : Int32) + (-2 : Int32)))]) rfl ?_
            rw [show ((27 : Int32) + (-2 : Int32)) = (25 : Int32) from by decide]
            show Steps p.tables e below (s₁.setTop (mkF m 69 #[.val (.int v11), .val (.int (25 : Int32))] [])) _
            refine XS.iloadN X0.here hx rfl (hb hby d3_69) rfl ?_
            show Steps p.tables e below (s₁.setTop (mkF m 70 #[.val (.int v11), .val (.int (25 : Int32))] [(.int v11)])) _
            refine XS.iconst X0.here hx rfl (hb hby d3_70) ?_
            show Steps p.tables e below (s₁.setTop (mkF m 71 #[.val (.int v11), .val (.int (25 : Int32))] [(.int (2 : Int32)), (.int v11)])) _
            refine XS.iushr X0.here hx rfl (hb hby d3_71) rfl ?_
            show Steps p.tables e below (s₁.setTop (mkF m 72 #[.val (.int v11), .val (.int (25 : Int32))] [(.int ((v11.toUInt32 >>> ((2 : Int32) &&& 31).toUInt32).toInt32))])) _
            rw [← ev14]
            show Steps p.tables e below (s₁.setTop (mkF m 72 #[.val (.int v11), .val (.int (25 : Int32))] [(.int v14)])) _
            refine XS.istoreN X0.here hx rfl (hb hby d3_72) rfl (l' := #[.val (.int v14), .val (.int (25 : Int32))]) rfl ?_
            show Steps p.tables e below (s₁.setTop (mkF m 73 #[.val (.int v14), .val (.int (25 : Int32))] [])) _
            refine XS.iloadN X0.here hx rfl (hb hby d3_73) rfl ?_
            show Steps p.tables e below (s₁.setTop (mkF m 74 #[.val (.int v14), .val (.int (25 : Int32))] [(.int (25 : Int32))])) _
            refine XS.iloadN X0.here hx rfl (hb hby d3_74) rfl ?_
            show Steps p.tables e below (s₁.setTop (mkF m 75 #[.val (.int v14), .val (.int (25 : Int32))] [(.int v14), (.int (25 : Int32))])) _
            refine XS.iconst X0.here hx rfl (hb hby d3_75) ?_
            show Steps p.tables e below (s₁.setTop (mkF m 76 #[.val (.int v14), .val (.int (25 : Int32))] [(.int (1 : Int32)), (.int v14), (.int (25 : Int32))])) _
            refine XS.iushr X0.here hx rfl (hb hby d3_76) rfl ?_
            show Steps p.tables e below (s₁.setTop (mkF m 77 #[.val (.int v14), .val (.int (25 : Int32))] [(.int ((v14.toUInt32 >>> ((1 : Int32) &&& 31).toUInt32).toInt32)), (.int (25 : Int32))])) _
            refine XS.isub X0.here hx rfl (hb hby d3_77) rfl ?_
            show Steps p.tables e below (s₁.setTop (mkF m 78 #[.val (.int v14), .val (.int (25 : Int32))] [(.int ((25 : Int32) - ((v14.toUInt32 >>> ((1 : Int32) &&& 31).toUInt32).toInt32)))])) _
            exact retI X0 hx Bd.returns (hb hby d3_78) hr
          · show Q3 Z p0  h0 n0 _ s₁.heap _
            rw [e0]
            have r := rng32 p0
            have hp' := Int32.lt_iff_toInt_lt.mp hp
            rw [own_z0] at hp'
            have k22 := Int32.lt_iff_toInt_lt.mp hc22_3
            rw [show (65536 : Int32).toInt = 65536 from by decide] at k22
            have k37 := Int32.lt_iff_toInt_lt.mp hc37_5
            rw [show (256 : Int32).toInt = 256 from by decide] at k37
            have k51 := mt Int32.lt_iff_toInt_lt.mpr hc51_7
            rw [show (16 : Int32).toInt = 16 from by decide] at k51
            have s51 := own_sh p0 (4 : Int32) 4 16 (by decide) (by decide) (by decide) (by omega)
            rw [← ev11] at s51
            have k63 := mt Int32.lt_iff_toInt_lt.mpr hc63_13
            rw [show (4 : Int32).toInt = 4 from by decide] at k63
            have s63 := own_sh v11 (2 : Int32) 2 4 (by decide) (by decide) (by decide) (by omega)
            rw [← ev14] at s63
            have sf := own_sh v14 (1 : Int32) 1 2 (by decide) (by decide) (by decide) (by omega)
            have hl : ((25 : Int32)).toInt = 25 := by decide
            have hs := c_isub ((25 : Int32)) ((v14.toUInt32 >>> ((1 : Int32) &&& 31).toUInt32).toInt32)
            have hr := rng32 ((25 : Int32) - ((v14.toUInt32 >>> ((1 : Int32) &&& 31).toUInt32).toInt32))
            by_cases hy : v14.toInt < 2
            · refine ⟨_, 6, rfl, N0, rfl, ?_, ?_, ?_, ?_⟩ <;> omega
            · refine ⟨_, 7, rfl, N0, rfl, ?_, ?_, ?_, ?_⟩ <;> omega
    · have K : ∀ target, Steps p.tables e below (s₁.setTop (mkF m 40 #[.val (.int p0), .val (.int (31 : Int32))] [])) target → Steps p.tables e below (s₁.setTop (mkF m 37 #[.val (.int p0), .val (.int (31 : Int32))] [(.int (256 : Int32)), (.int p0)])) target := by
        intro target kt
        refine XS.icmpNo X0.here hx rfl (hb hby d3_37) rfl (flt hc37_5).1 ?_
        exact kt
      refine Done.of ?_ K
      obtain ⟨v15, ev15⟩ : ∃ z : Int32, z = ((p0.toUInt32 >>> ((8 : Int32) &&& 31).toUInt32).toInt32) := ⟨_, rfl⟩
      have K16 : ∀ target, Steps p.tables e below (s₁.setTop (mkF m 51 #[.val (.int v15), .val (.int (23 : Int32))] [(.int (16 : Int32)), (.int v15)])) target → Steps p.tables e below (s₁.setTop (mkF m 40 #[.val (.int p0), .val (.int (31 : Int32))] [])) target := by
        intro target kt
        show Steps p.tables e below (s₁.setTop (mkF m 40 #[.val (.int p0), .val (.int (31 : Int32))] [])) _
        refine XS.iinc X0.here hx rfl (hb hby d3_40) rfl (l' := #[.val (.int p0), .val (.int ((31 : Int32) + (-8 : Int32)))]) rfl ?_
        rw [show ((31 : Int32) + (-8 : Int32)) = (23 : Int32) from by decide]
        show Steps p.tables e below (s₁.setTop (mkF m 43 #[.val (.int p0), .val (.int (23 : Int32))] [])) _
        refine XS.iloadN X0.here hx rfl (hb hby d3_43) rfl ?_
        show Steps p.tables e below (s₁.setTop (mkF m 44 #[.val (.int p0), .val (.int (23 : Int32))] [(.int p0)])) _
        refine XS.bipush X0.here hx rfl (hb hby d3_44) ?_
        show Steps p.tables e below (s₁.setTop (mkF m 46 #[.val (.int p0), .val (.int (23 : Int32))] [(.int (8 : Int32)), (.int p0)])) _
        refine XS.iushr X0.here hx rfl (hb hby d3_46) rfl ?_
        show Steps p.tables e below (s₁.setTop (mkF m 47 #[.val (.int p0), .val (.int (23 : Int32))] [(.int ((p0.toUInt32 >>> ((8 : Int32) &&& 31).toUInt32).toInt32))])) _
        rw [← ev15]
        show Steps p.tables e below (s₁.setTop (mkF m 47 #[.val (.int p0), .val (.int (23 : Int32))] [(.int v15)])) _
        refine XS.istoreN X0.here hx rfl (hb hby d3_47) rfl (l' := #[.val (.int v15), .val (.int (23 : Int32))]) rfl ?_
        show Steps p.tables e below (s₁.setTop (mkF m 48 #[.val (.int v15), .val (.int (23 : Int32))] [])) _
        refine XS.iloadN X0.here hx rfl (hb hby d3_48) rfl ?_
        show Steps p.tables e below (s₁.setTop (mkF m 49 #[.val (.int v15), .val (.int (23 : Int32))] [(.int v15)])) _
        refine XS.bipush X0.here hx rfl (hb hby d3_49) ?_
        exact kt
      refine Done.of ?_ K16
      by_cases hc51_17 : v15 < (16 : Int32)
      · have K : ∀ target, Steps p.tables e below (s₁.setTop (mkF m 61 #[.val (.int v15), .val (.int (23 : Int32))] [])) target → Steps p.tables e below (s₁.setTop (mkF m 51 #[.val (.int v15), .val (.int (23 : Int32))] [(.int (16 : Int32)), (.int v15)])) target := by
          intro target kt
          refine XS.icmpYes X0.here hx rfl (pc0 := 51) (pc' := 61) rfl (hb hby d3_51) rfl (tlt hc51_17).1 (by decide) (by decide) ?_
          exact kt
        refine Done.of ?_ K
        have K18 : ∀ target, Steps p.tables e below (s₁.setTop (mkF m 63 #[.val (.int v15), .val (.int (23 : Int32))] [(.int (4 : Int32)), (.int v15)])) target → Steps p.tables e below (s₁.setTop (mkF m 61 #[.val (.int v15), .val (.int (23 : Int32))] [])) target := by
          intro target kt
          show Steps p.tables e below (s₁.setTop (mkF m 61 #[.val (.int v15), .val (.int (23 : Int32))] [])) _
          refine XS.iloadN X0.here hx rfl (hb hby d3_61) rfl ?_
          show Steps p.tables e below (s₁.setTop (mkF m 62 #[.val (.int v15), .val (.int (23 : Int32))] [(.int v15)])) _
          refine XS.iconst X0.here hx rfl (hb hby d3_62) ?_
          exact kt
        refine Done.of ?_ K18
        by_cases hc63_19 : v15 < (4 : Int32)
        · have K : ∀ target, Steps p.tables e below (s₁.setTop (mkF m 73 #[.val (.int v15), .val (.int (23 : Int32))] [])) target → Steps p.tables e below (s₁.setTop (mkF m 63 #[.val (.int v15), .val (.int (23 : Int32))] [(.int (4 : Int32)), (.int v15)])) target := by
            intro target kt
            refine XS.icmpYes X0.here hx rfl (pc0 := 63) (pc' := 73) rfl (hb hby d3_63) rfl (tlt hc63_19).1 (by decide) (by decide) ?_
            exact kt
          refine Done.of ?_ K
          obtain ⟨fs, hr, hrun, hended, hW, hsame⟩ := X0.leave (v := some (.int ((23 : Int32) - ((v15.toUInt32 >>> ((1 : Int32) &&& 31).toUInt32).toInt32)))) (fun h => by rw [Bd.returns] at h; cases h)
          refine ⟨_, _, ?_, hrun, hended, _, _, rfl, ?_, ⟨_, rfl⟩, hW, hsame.mono (by decide) (by decide)⟩
          · show Steps p.tables e below (s₁.setTop (mkF m 73 #[.val (.int v15), .val (.int (23 : Int32))] [])) _
            refine XS.iloadN X0.here hx rfl (hb hby d3_73) rfl ?_
            show Steps p.tables e below (s₁.setTop (mkF m 74 #[.val (.int v15), .val (.int (23 : Int32))] [(.int (23 : Int32))])) _
            refine XS.iloadN X0.here hx rfl (hb hby d3_74) rfl ?_
            show Steps p.tables e below (s₁.setTop (mkF m 75 #[.val (.int v15), .val (.int (23 : Int32))] [(.int v15), (.int (23 : Int32))])) _
            refine XS.iconst X0.here hx rfl (hb hby d3_75) ?_
            show Steps p.tables e below (s₁.setTop (mkF m 76 #[.val (.int v15), .val (.int (23 : Int32))] [(.int (1 : Int32)), (.int v15), (.int (23 : Int32))])) _
            refine XS.iushr X0.here hx rfl (hb hby d3_76) rfl ?_
            show Steps p.tables e below (s₁.setTop (mkF m 77 #[.val (.int v15), .val (.int (23 : Int32))] [(.int ((v15.toUInt32 >>> ((1 : Int32) &&& 31).toUInt32).toInt32)), (.int (23 : Int32))])) _
            refine XS.isub X0.here hx rfl (hb hby d3_77) rfl ?_
            show Steps p.tables e below (s₁.setTop (mkF m 78 #[.val (.int v15), .val (.int (23 : Int32))] [(.int ((23 : Int32) - ((v15.toUInt32 >>> ((1 : Int32) &&& 31).toUInt32).toInt32)))])) _
            exact retI X0 hx Bd.returns (hb hby d3_78) hr
          · show Q3 Z p0  h0 n0 _ s₁.heap _
            rw [e0]
            have r := rng32 p0
            have hp' := Int32.lt_iff_toInt_lt.mp hp
            rw [own_z0] at hp'
            have k22 := Int32.lt_iff_toInt_lt.mp hc22_3
            rw [show (65536 : Int32).toInt = 65536 from by decide] at k22
            have k37 := mt Int32.lt_iff_toInt_lt.mpr hc37_5
            rw [show (256 : Int32).toInt = 256 from by decide] at k37
            have s37 := own_sh p0 (8 : Int32) 8 256 (by decide) (by decide) (by decide) (by omega)
            rw [← ev15] at s37
            have k51 := Int32.lt_iff_toInt_lt.mp hc51_17
            rw [show (16 : Int32).toInt = 16 from by decide] at k51
            have k63 := Int32.lt_iff_toInt_lt.mp hc63_19
            rw [show (4 : Int32).toInt = 4 from by decide] at k63
            have sf := own_sh v15 (1 : Int32) 1 2 (by decide) (by decide) (by decide) (by omega)
            have hl : ((23 : Int32)).toInt = 23 := by decide
            have hs := c_isub ((23 : Int32)) ((v15.toUInt32 >>> ((1 : Int32) &&& 31).toUInt32).toInt32)
            have hr := rng32 ((23 : Int32) - ((v15.toUInt32 >>> ((1 : Int32) &&& 31).toUInt32).toInt32))
            by_cases hy : v15.toInt < 2
            · refine ⟨_, 8, rfl, N0, rfl, ?_, ?_, ?_, ?_⟩ <;> omega
            · refine ⟨_, 9, rfl, N0, rfl, ?_, ?_, ?_, ?_⟩ <;> omega
        · have K : ∀ target, Steps p.tables e below (s₁.setTop (mkF m 66 #[.val (.int v15), .val (.int (23 : Int32))] [])) target → Steps p.tables e below (s₁.setTop (mkF m 63 #[.val (.int v15), .val (.int (23 : Int32))] [(.int (4 : Int32)), (.int v15)])) target := by
            intro target kt
            refine XS.icmpNo X0.here hx rfl (hb hby d3_63) rfl (flt hc63_19).1 ?_
            exact kt
          refine Done.of ?_ K
          obtain ⟨v20, ev20⟩ : ∃ z : Int32, z = ((v15.toUInt32 >>> ((2 : Int32) &&& 31).toUInt32).toInt32) := ⟨_, rfl⟩
          obtain ⟨fs, hr, hrun, hended, hW, hsame⟩ := X0.leave (v := some (.int ((21 : Int32) - ((v20.toUInt32 >>> ((1 : Int32) &&& 31).toUInt32).toInt32)))) (fun h => by rw [Bd.returns] at h; cases h)
          refine ⟨_, _, ?_, hrun, hended, _, _, rfl, ?_, ⟨_, rfl⟩, hW, hsame.mono (by decide) (by decide)⟩
          · show Steps p.tables e below (s₁.setTop (mkF m 66 #[.val (.int v15), .val (.int (23 : Int32))] [])) _
            refine XS.iinc X0.here hx rfl (hb hby d3_66) rfl (l' := #[.val (.int v15), .val (.int ((23 : Int32) + (-2 : Int32)))]) rfl ?_
            rw [show ((23 : Int32) + (-2 : Int32)) = (21 : Int32) from by decide]
            show Steps p.tables e below (s₁.setTop (mkF m 69 #[.val (.int v15), .val (.int (21 : Int32))] [])) _
            refine XS.iloadN X0.here hx rfl (hb hby d3_69) rfl ?_
            show Steps p.tables e below (s₁.setTop (mkF m 70 #[.val (.int v15), .val (.int (21 : Int32))] [(.int v15)])) _
            refine XS.iconst X0.here hx rfl (hb hby d3_70) ?_
            show Steps p.tables e below (s₁.setTop (mkF m 71 #[.val (.int v15), .val (.int (21 : Int32))] [(.int (2 : Int32)), (.int v15)])) _
            refine XS.iushr X0.here hx rfl (hb hby d3_71) rfl ?_
            show Steps p.tables e below (s₁.setTop (mkF m 72 #[.val (.int v15), .val (.int (21 : Int32))] [(.int ((v15.toUInt32 >>> ((2 : Int32) &&& 31).toUInt32).toInt32))])) _
            rw [← ev20]
            show Steps p.tables e below (s₁.setTop (mkF m 72 #[.val (.int v15), .val (.int (21 : Int32))] [(.int v20)])) _
            refine XS.istoreN X0.here hx rfl (hb hby d3_72) rfl (l' := #[.val (.int v20), .val (.int (21 : Int32))]) rfl ?_
            show Steps p.tables e below (s₁.setTop (mkF m 73 #[.val (.int v20), .val (.int (21 : Int32))] [])) _
            refine XS.iloadN X0.here hx rfl (hb hby d3_73) rfl ?_
            show Steps p.tables e below (s₁.setTop (mkF m 74 #[.val (.int v20), .val (.int (21 : Int32))] [(.int (21 : Int32))])) _
            refine XS.iloadN X0.here hx rfl (hb hby d3_74) rfl ?_
            show Steps p.tables e below (s₁.setTop (mkF m 75 #[.val (.int v20), .val (.int (21 : Int32))] [(.int v20), (.int (21 : Int32))])) _
            refine XS.iconst X0.here hx rfl (hb hby d3_75) ?_
            show Steps p.tables e below (s₁.setTop (mkF m 76 #[.val (.int v20), .val (.int (21 : Int32))] [(.int (1 : Int32)), (.int v20), (.int (21 : Int32))])) _
            refine XS.iushr X0.here hx rfl (hb hby d3_76) rfl ?_
            show Steps p.tables e below (s₁.setTop (mkF m 77 #[.val (.int v20), .val (.int (21 : Int32))] [(.int ((v20.toUInt32 >>> ((1 : Int32) &&& 31).toUInt32).toInt32)), (.int (21 : Int32))])) _
            refine XS.isub X0.here hx rfl (hb hby d3_77) rfl ?_
            show Steps p.tables e below (s₁.setTop (mkF m 78 #[.val (.int v20), .val (.int (21 : Int32))] [(.int ((21 : Int32) - ((v20.toUInt32 >>> ((1 : Int32) &&& 31).toUInt32).toInt32)))])) _
            exact retI X0 hx Bd.returns (hb hby d3_78) hr
          · show Q3 Z p0  h0 n0 _ s₁.heap _
            rw [e0]
            have r := rng32 p0
            have hp' := Int32.lt_iff_toInt_lt.mp hp
            rw [own_z0] at hp'
            have k22 := Int32.lt_iff_toInt_lt.mp hc22_3
            rw [show (65536 : Int32).toInt = 65536 from by decide] at k22
            have k37 := mt Int32.lt_iff_toInt_lt.mpr hc37_5
            rw [show (256 : Int32).toInt = 256 from by decide] at k37
            have s37 := own_sh p0 (8 : Int32) 8 256 (by decide) (by decide) (by decide) (by omega)
            rw [← ev15] at s37
            have k51 := Int32.lt_iff_toInt_lt.mp hc51_17
            rw [show (16 : Int32).toInt = 16 from by decide] at k51
            have k63 := mt Int32.lt_iff_toInt_lt.mpr hc63_19
            rw [show (4 : Int32).toInt = 4 from by decide] at k63
            have s63 := own_sh v15 (2 : Int32) 2 4 (by decide) (by decide) (by decide) (by omega)
            rw [← ev20] at s63
            have sf := own_sh v20 (1 : Int32) 1 2 (by decide) (by decide) (by decide) (by omega)
            have hl : ((21 : Int32)).toInt = 21 := by decide
            have hs := c_isub ((21 : Int32)) ((v20.toUInt32 >>> ((1 : Int32) &&& 31).toUInt32).toInt32)
            have hr := rng32 ((21 : Int32) - ((v20.toUInt32 >>> ((1 : Int32) &&& 31).toUInt32).toInt32))
            by_cases hy : v20.toInt < 2
            · refine ⟨_, 10, rfl, N0, rfl, ?_, ?_, ?_, ?_⟩ <;> omega
            · refine ⟨_, 11, rfl, N0, rfl, ?_, ?_, ?_, ?_⟩ <;> omega
      · have K : ∀ target, Steps p.tables e below (s₁.setTop (mkF m 54 #[.val (.int v15), .val (.int (23 : Int32))] [])) target → Steps p.tables e below (s₁.setTop (mkF m 51 #[.val (.int v15), .val (.int (23 : Int32))] [(.int (16 : Int32)), (.int v15)])) target := by
          intro target kt
          refine XS.icmpNo X0.here hx rfl (hb hby d3_51) rfl (flt hc51_17).1 ?_
          exact kt
        refine Done.of ?_ K
        obtain ⟨v21, ev21⟩ : ∃ z : Int32, z = ((v15.toUInt32 >>> ((4 : Int32) &&& 31).toUInt32).toInt32) := ⟨_, rfl⟩
        have K22 : ∀ target, Steps p.tables e below (s₁.setTop (mkF m 63 #[.val (.int v21), .val (.int (19 : Int32))] [(.int (4 : Int32)), (.int v21)])) target → Steps p.tables e below (s₁.setTop (mkF m 54 #[.val (.int v15), .val (.int (23 : Int32))] [])) target := by
          intro target kt
          show Steps p.tables e below (s₁.setTop (mkF m 54 #[.val (.int v15), .val (.int (23 : Int32))] [])) _
          refine XS.iinc X0.here hx rfl (hb hby d3_54) rfl (l' := #[.val (.int v15), .val (.int ((23 : Int32) + (-4 : Int32)))]) rfl ?_
          rw [show ((23 : Int32) + (-4 : Int32)) = (19 : Int32) from by decide]
          show Steps p.tables e below (s₁.setTop (mkF m 57 #[.val (.int v15), .val (.int (19 : Int32))] [])) _
          refine XS.iloadN X0.here hx rfl (hb hby d3_57) rfl ?_
          show Steps p.tables e below (s₁.setTop (mkF m 58 #[.val (.int v15), .val (.int (19 : Int32))] [(.int v15)])) _
          refine XS.iconst X0.here hx rfl (hb hby d3_58) ?_
          show Steps p.tables e below (s₁.setTop (mkF m 59 #[.val (.int v15), .val (.int (19 : Int32))] [(.int (4 : Int32)), (.int v15)])) _
          refine XS.iushr X0.here hx rfl (hb hby d3_59) rfl ?_
          show Steps p.tables e below (s₁.setTop (mkF m 60 #[.val (.int v15), .val (.int (19 : Int32))] [(.int ((v15.toUInt32 >>> ((4 : Int32) &&& 31).toUInt32).toInt32))])) _
          rw [← ev21]
          show Steps p.tables e below (s₁.setTop (mkF m 60 #[.val (.int v15), .val (.int (19 : Int32))] [(.int v21)])) _
          refine XS.istoreN X0.here hx rfl (hb hby d3_60) rfl (l' := #[.val (.int v21), .val (.int (19 : Int32))]) rfl ?_
          show Steps p.tables e below (s₁.setTop (mkF m 61 #[.val (.int v21), .val (.int (19 : Int32))] [])) _
          refine XS.iloadN X0.here hx rfl (hb hby d3_61) rfl ?_
          show Steps p.tables e below (s₁.setTop (mkF m 62 #[.val (.int v21), .val (.int (19 : Int32))] [(.int v21)])) _
          refine XS.iconst X0.here hx rfl (hb hby d3_62) ?_
          exact kt
        refine Done.of ?_ K22
        by_cases hc63_23 : v21 < (4 : Int32)
        · have K : ∀ target, Steps p.tables e below (s₁.setTop (mkF m 73 #[.val (.int v21), .val (.int (19 : Int32))] [])) target → Steps p.tables e below (s₁.setTop (mkF m 63 #[.val (.int v21), .val (.int (19 : Int32))] [(.int (4 : Int32)), (.int v21)])) target := by
            intro target kt
            refine XS.icmpYes X0.here hx rfl (pc0 := 63) (pc' := 73) rfl (hb hby d3_63) rfl (tlt hc63_23).1 (by decide) (by decide) ?_
            exact kt
          refine Done.of ?_ K
          obtain ⟨fs, hr, hrun, hended, hW, hsame⟩ := X0.leave (v := some (.int ((19 : Int32) - ((v21.toUInt32 >>> ((1 : Int32) &&& 31).toUInt32).toInt32)))) (fun h => by rw [Bd.returns] at h; cases h)
          refine ⟨_, _, ?_, hrun, hended, _, _, rfl, ?_, ⟨_, rfl⟩, hW, hsame.mono (by decide) (by decide)⟩
          · show Steps p.tables e below (s₁.setTop (mkF m 73 #[.val (.int v21), .val (.int (19 : Int32))] [])) _
            refine XS.iloadN X0.here hx rfl (hb hby d3_73) rfl ?_
            show Steps p.tables e below (s₁.setTop (mkF m 74 #[.val (.int v21), .val (.int (19 : Int32))] [(.int (19 : Int32))])) _
            refine XS.iloadN X0.here hx rfl (hb hby d3_74) rfl ?_
            show Steps p.tables e below (s₁.setTop (mkF m 75 #[.val (.int v21), .val (.int (19 : Int32))] [(.int v21), (.int (19 : Int32))])) _
            refine XS.iconst X0.here hx rfl (hb hby d3_75) ?_
            show Steps p.tables e below (s₁.setTop (mkF m 76 #[.val (.int v21), .val (.int (19 : Int32))] [(.int (1 : Int32)), (.int v21), (.int (19 : Int32))])) _
            refine XS.iushr X0.here hx rfl (hb hby d3_76) rfl ?_
            show Steps p.tables e below (s₁.setTop (mkF m 77 #[.val (.int v21), .val (.int (19 : Int32))] [(.int ((v21.toUInt32 >>> ((1 : Int32) &&& 31).toUInt32).toInt32)), (.int (19 : Int32))])) _
            refine XS.isub X0.here hx rfl (hb hby d3_77) rfl ?_
            show Steps p.tables e below (s₁.setTop (mkF m 78 #[.val (.int v21), .val (.int (19 : Int32))] [(.int ((19 : Int32) - ((v21.toUInt32 >>> ((1 : Int32) &&& 31).toUInt32).toInt32)))])) _
            exact retI X0 hx Bd.returns (hb hby d3_78) hr
          · show Q3 Z p0  h0 n0 _ s₁.heap _
            rw [e0]
            have r := rng32 p0
            have hp' := Int32.lt_iff_toInt_lt.mp hp
            rw [own_z0] at hp'
            have k22 := Int32.lt_iff_toInt_lt.mp hc22_3
            rw [show (65536 : Int32).toInt = 65536 from by decide] at k22
            have k37 := mt Int32.lt_iff_toInt_lt.mpr hc37_5
            rw [show (256 : Int32).toInt = 256 from by decide] at k37
            have s37 := own_sh p0 (8 : Int32) 8 256 (by decide) (by decide) (by decide) (by omega)
            rw [← ev15] at s37
            have k51 := mt Int32.lt_iff_toInt_lt.mpr hc51_17
            rw [show (16 : Int32).toInt = 16 from by decide] at k51
            have s51 := own_sh v15 (4 : Int32) 4 16 (by decide) (by decide) (by decide) (by omega)
            rw [← ev21] at s51
            have k63 := Int32.lt_iff_toInt_lt.mp hc63_23
            rw [show (4 : Int32).toInt = 4 from by decide] at k63
            have sf := own_sh v21 (1 : Int32) 1 2 (by decide) (by decide) (by decide) (by omega)
            have hl : ((19 : Int32)).toInt = 19 := by decide
            have hs := c_isub ((19 : Int32)) ((v21.toUInt32 >>> ((1 : Int32) &&& 31).toUInt32).toInt32)
            have hr := rng32 ((19 : Int32) - ((v21.toUInt32 >>> ((1 : Int32) &&& 31).toUInt32).toInt32))
            by_cases hy : v21.toInt < 2
            · refine ⟨_, 12, rfl, N0, rfl, ?_, ?_, ?_, ?_⟩ <;> omega
            · refine ⟨_, 13, rfl, N0, rfl, ?_, ?_, ?_, ?_⟩ <;> omega
        · have K : ∀ target, Steps p.tables e below (s₁.setTop (mkF m 66 #[.val (.int v21), .val (.int (19 : Int32))] [])) target → Steps p.tables e below (s₁.setTop (mkF m 63 #[.val (.int v21), .val (.int (19 : Int32))] [(.int (4 : Int32)), (.int v21)])) target := by
            intro target kt
            refine XS.icmpNo X0.here hx rfl (hb hby d3_63) rfl (flt hc63_23).1 ?_
            exact kt
          refine Done.of ?_ K
          obtain ⟨v24, ev24⟩ : ∃ z : Int32, z = ((v21.toUInt32 >>> ((2 : Int32) &&& 31).toUInt32).toInt32) := ⟨_, rfl⟩
          obtain ⟨fs, hr, hrun, hended, hW, hsame⟩ := X0.leave (v := some (.int ((17 : Int32) - ((v24.toUInt32 >>> ((1 : Int32) &&& 31).toUInt32).toInt32)))) (fun h => by rw [Bd.returns] at h; cases h)
          refine ⟨_, _, ?_, hrun, hended, _, _, rfl, ?_, ⟨_, rfl⟩, hW, hsame.mono (by decide) (by decide)⟩
          · show Steps p.tables e below (s₁.setTop (mkF m 66 #[.val (.int v21), .val (.int (19 : Int32))] [])) _
            refine XS.iinc X0.here hx rfl (hb hby d3_66) rfl (l' := #[.val (.int v21), .val (.int ((19 : Int32) + (-2 : Int32)))]) rfl ?_
            rw [show ((19 : Int32) + (-2 : Int32)) = (17 : Int32) from by decide]
            show Steps p.tables e below (s₁.setTop (mkF m 69 #[.val (.int v21), .val (.int (17 : Int32))] [])) _
            refine XS.iloadN X0.here hx rfl (hb hby d3_69) rfl ?_
            show Steps p.tables e below (s₁.setTop (mkF m 70 #[.val (.int v21), .val (.int (17 : Int32))] [(.int v21)])) _
            refine XS.iconst X0.here hx rfl (hb hby d3_70) ?_
            show Steps p.tables e below (s₁.setTop (mkF m 71 #[.val (.int v21), .val (.int (17 : Int32))] [(.int (2 : Int32)), (.int v21)])) _
            refine XS.iushr X0.here hx rfl (hb hby d3_71) rfl ?_
            show Steps p.tables e below (s₁.setTop (mkF m 72 #[.val (.int v21), .val (.int (17 : Int32))] [(.int ((v21.toUInt32 >>> ((2 : Int32) &&& 31).toUInt32).toInt32))])) _
            rw [← ev24]
            show Steps p.tables e below (s₁.setTop (mkF m 72 #[.val (.int v21), .val (.int (17 : Int32))] [(.int v24)])) _
            refine XS.istoreN X0.here hx rfl (hb hby d3_72) rfl (l' := #[.val (.int v24), .val (.int (17 : Int32))]) rfl ?_
            show Steps p.tables e below (s₁.setTop (mkF m 73 #[.val (.int v24), .val (.int (17 : Int32))] [])) _
            refine XS.iloadN X0.here hx rfl (hb hby d3_73) rfl ?_
            show Steps p.tables e below (s₁.setTop (mkF m 74 #[.val (.int v24), .val (.int (17 : Int32))] [(.int (17 : Int32))])) _
            refine XS.iloadN X0.here hx rfl (hb hby d3_74) rfl ?_
            show Steps p.tables e below (s₁.setTop (mkF m 75 #[.val (.int v24), .val (.int (17 : Int32))] [(.int v24), (.int (17 : Int32))])) _
            refine XS.iconst X0.here hx rfl (hb hby d3_75) ?_
            show Steps p.tables e below (s₁.setTop (mkF m 76 #[.val (.int v24), .val (.int (17 : Int32))] [(.int (1 : Int32)), (.int v24), (.int (17 : Int32))])) _
            refine XS.iushr X0.here hx rfl (hb hby d3_76) rfl ?_
            show Steps p.tables e below (s₁.setTop (mkF m 77 #[.val (.int v24), .val (.int (17 : Int32))] [(.int ((v24.toUInt32 >>> ((1 : Int32) &&& 31).toUInt32).toInt32)), (.int (17 : Int32))])) _
            refine XS.isub X0.here hx rfl (hb hby d3_77) rfl ?_
            show Steps p.tables e below (s₁.setTop (mkF m 78 #[.val (.int v24), .val (.int (17 : Int32))] [(.int ((17 : Int32) - ((v24.toUInt32 >>> ((1 : Int32) &&& 31).toUInt32).toInt32)))])) _
            exact retI X0 hx Bd.returns (hb hby d3_78) hr
          · show Q3 Z p0  h0 n0 _ s₁.heap _
            rw [e0]
            have r := rng32 p0
            have hp' := Int32.lt_iff_toInt_lt.mp hp
            rw [own_z0] at hp'
            have k22 := Int32.lt_iff_toInt_lt.mp hc22_3
            rw [show (65536 : Int32).toInt = 65536 from by decide] at k22
            have k37 := mt Int32.lt_iff_toInt_lt.mpr hc37_5
            rw [show (256 : Int32).toInt = 256 from by decide] at k37
            have s37 := own_sh p0 (8 : Int32) 8 256 (by decide) (by decide) (by decide) (by omega)
            rw [← ev15] at s37
            have k51 := mt Int32.lt_iff_toInt_lt.mpr hc51_17
            rw [show (16 : Int32).toInt = 16 from by decide] at k51
            have s51 := own_sh v15 (4 : Int32) 4 16 (by decide) (by decide) (by decide) (by omega)
            rw [← ev21] at s51
            have k63 := mt Int32.lt_iff_toInt_lt.mpr hc63_23
            rw [show (4 : Int32).toInt = 4 from by decide] at k63
            have s63 := own_sh v21 (2 : Int32) 2 4 (by decide) (by decide) (by decide) (by omega)
            rw [← ev24] at s63
            have sf := own_sh v24 (1 : Int32) 1 2 (by decide) (by decide) (by decide) (by omega)
            have hl : ((17 : Int32)).toInt = 17 := by decide
            have hs := c_isub ((17 : Int32)) ((v24.toUInt32 >>> ((1 : Int32) &&& 31).toUInt32).toInt32)
            have hr := rng32 ((17 : Int32) - ((v24.toUInt32 >>> ((1 : Int32) &&& 31).toUInt32).toInt32))
            by_cases hy : v24.toInt < 2
            · refine ⟨_, 14, rfl, N0, rfl, ?_, ?_, ?_, ?_⟩ <;> omega
            · refine ⟨_, 15, rfl, N0, rfl, ?_, ?_, ?_, ?_⟩ <;> omega
  · have K : ∀ target, Steps p.tables e below (s₁.setTop (mkF m 25 #[.val (.int p0), .val (.int (31 : Int32))] [])) target → Steps p.tables e below (s₁.setTop (mkF m 22 #[.val (.int p0), .val (.int (31 : Int32))] [(.int (65536 : Int32)), (.int p0)])) target := by
      intro target kt
      refine XS.icmpNo X0.here hx rfl (hb hby d3_22) rfl (flt hc22_3).1 ?_
      exact kt
    refine Done.of ?_ K
    obtain ⟨v25, ev25⟩ : ∃ z : Int32, z = ((p0.toUInt32 >>> ((16 : Int32) &&& 31).toUInt32).toInt32) := ⟨_, rfl⟩
    have K26 : ∀ target, Steps p.tables e below (s₁.setTop (mkF m 37 #[.val (.int v25), .val (.int (15 : Int32))] [(.int (256 : Int32)), (.int v25)])) target → Steps p.tables e below (s₁.setTop (mkF m 25 #[.val (.int p0), .val (.int (31 : Int32))] [])) target := by
      intro target kt
      show Steps p.tables e below (s₁.setTop (mkF m 25 #[.val (.int p0), .val (.int (31 : Int32))] [])) _
      refine XS.iinc X0.here hx rfl (hb hby d3_25) rfl (l' := #[.val (.int p0), .val (.int ((31 : Int32) + (-16 : Int32)))]) rfl ?_
      rw [show ((31 : Int32) + (-16 : Int32)) = (15 : Int32) from by decide]
      show Steps p.tables e below (s₁.setTop (mkF m 28 #[.val (.int p0), .val (.int (15 : Int32))] [])) _
      refine XS.iloadN X0.here hx rfl (hb hby d3_28) rfl ?_
      show Steps p.tables e below (s₁.setTop (mkF m 29 #[.val (.int p0), .val (.int (15 : Int32))] [(.int p0)])) _
      refine XS.bipush X0.here hx rfl (hb hby d3_29) ?_
      show Steps p.tables e below (s₁.setTop (mkF m 31 #[.val (.int p0), .val (.int (15 : Int32))] [(.int (16 : Int32)), (.int p0)])) _
      refine XS.iushr X0.here hx rfl (hb hby d3_31) rfl ?_
      show Steps p.tables e below (s₁.setTop (mkF m 32 #[.val (.int p0), .val (.int (15 : Int32))] [(.int ((p0.toUInt32 >>> ((16 : Int32) &&& 31).toUInt32).toInt32))])) _
      rw [← ev25]
      show Steps p.tables e below (s₁.setTop (mkF m 32 #[.val (.int p0), .val (.int (15 : Int32))] [(.int v25)])) _
      refine XS.istoreN X0.here hx rfl (hb hby d3_32) rfl (l' := #[.val (.int v25), .val (.int (15 : Int32))]) rfl ?_
      show Steps p.tables e below (s₁.setTop (mkF m 33 #[.val (.int v25), .val (.int (15 : Int32))] [])) _
      refine XS.iloadN X0.here hx rfl (hb hby d3_33) rfl ?_
      show Steps p.tables e below (s₁.setTop (mkF m 34 #[.val (.int v25), .val (.int (15 : Int32))] [(.int v25)])) _
      refine XS.sipush X0.here hx rfl (hb hby d3_34) ?_
      exact kt
    refine Done.of ?_ K26
    by_cases hc37_27 : v25 < (256 : Int32)
    · have K : ∀ target, Steps p.tables e below (s₁.setTop (mkF m 48 #[.val (.int v25), .val (.int (15 : Int32))] [])) target → Steps p.tables e below (s₁.setTop (mkF m 37 #[.val (.int v25), .val (.int (15 : Int32))] [(.int (256 : Int32)), (.int v25)])) target := by
        intro target kt
        refine XS.icmpYes X0.here hx rfl (pc0 := 37) (pc' := 48) rfl (hb hby d3_37) rfl (tlt hc37_27).1 (by decide) (by decide) ?_
        exact kt
      refine Done.of ?_ K
      have K28 : ∀ target, Steps p.tables e below (s₁.setTop (mkF m 51 #[.val (.int v25), .val (.int (15 : Int32))] [(.int (16 : Int32)), (.int v25)])) target → Steps p.tables e below (s₁.setTop (mkF m 48 #[.val (.int v25), .val (.int (15 : Int32))] [])) target := by
        intro target kt
        show Steps p.tables e below (s₁.setTop (mkF m 48 #[.val (.int v25), .val (.int (15 : Int32))] [])) _
        refine XS.iloadN X0.here hx rfl (hb hby d3_48) rfl ?_
        show Steps p.tables e below (s₁.setTop (mkF m 49 #[.val (.int v25), .val (.int (15 : Int32))] [(.int v25)])) _
        refine XS.bipush X0.here hx rfl (hb hby d3_49) ?_
        exact kt
      refine Done.of ?_ K28
      by_cases hc51_29 : v25 < (16 : Int32)
      · have K : ∀ target, Steps p.tables e below (s₁.setTop (mkF m 61 #[.val (.int v25), .val (.int (15 : Int32))] [])) target → Steps p.tables e below (s₁.setTop (mkF m 51 #[.val (.int v25), .val (.int (15 : Int32))] [(.int (16 : Int32)), (.int v25)])) target := by
          intro target kt
          refine XS.icmpYes X0.here hx rfl (pc0 := 51) (pc' := 61) rfl (hb hby d3_51) rfl (tlt hc51_29).1 (by decide) (by decide) ?_
          exact kt
        refine Done.of ?_ K
        have K30 : ∀ target, Steps p.tables e below (s₁.setTop (mkF m 63 #[.val (.int v25), .val (.int (15 : Int32))] [(.int (4 : Int32)), (.int v25)])) target → Steps p.tables e below (s₁.setTop (mkF m 61 #[.val (.int v25), .val (.int (15 : Int32))] [])) target := by
          intro target kt
          show Steps p.tables e below (s₁.setTop (mkF m 61 #[.val (.int v25), .val (.int (15 : Int32))] [])) _
          refine XS.iloadN X0.here hx rfl (hb hby d3_61) rfl ?_
          show Steps p.tables e below (s₁.setTop (mkF m 62 #[.val (.int v25), .val (.int (15 : Int32))] [(.int v25)])) _
          refine XS.iconst X0.here hx rfl (hb hby d3_62) ?_
          exact kt
        refine Done.of ?_ K30
        by_cases hc63_31 : v25 < (4 : Int32)
        · have K : ∀ target, Steps p.tables e below (s₁.setTop (mkF m 73 #[.val (.int v25), .val (.int (15 : Int32))] [])) target → Steps p.tables e below (s₁.setTop (mkF m 63 #[.val (.int v25), .val (.int (15 : Int32))] [(.int (4 : Int32)), (.int v25)])) target := by
            intro target kt
            refine XS.icmpYes X0.here hx rfl (pc0 := 63) (pc' := 73) rfl (hb hby d3_63) rfl (tlt hc63_31).1 (by decide) (by decide) ?_
            exact kt
          refine Done.of ?_ K
          obtain ⟨fs, hr, hrun, hended, hW, hsame⟩ := X0.leave (v := some (.int ((15 : Int32) - ((v25.toUInt32 >>> ((1 : Int32) &&& 31).toUInt32).toInt32)))) (fun h => by rw [Bd.returns] at h; cases h)
          refine ⟨_, _, ?_, hrun, hended, _, _, rfl, ?_, ⟨_, rfl⟩, hW, hsame.mono (by decide) (by decide)⟩
          · show Steps p.tables e below (s₁.setTop (mkF m 73 #[.val (.int v25), .val (.int (15 : Int32))] [])) _
            refine XS.iloadN X0.here hx rfl (hb hby d3_73) rfl ?_
            show Steps p.tables e below (s₁.setTop (mkF m 74 #[.val (.int v25), .val (.int (15 : Int32))] [(.int (15 : Int32))])) _
            refine XS.iloadN X0.here hx rfl (hb hby d3_74) rfl ?_
            show Steps p.tables e below (s₁.setTop (mkF m 75 #[.val (.int v25), .val (.int (15 : Int32))] [(.int v25), (.int (15 : Int32))])) _
            refine XS.iconst X0.here hx rfl (hb hby d3_75) ?_
            show Steps p.tables e below (s₁.setTop (mkF m 76 #[.val (.int v25), .val (.int (15 : Int32))] [(.int (1 : Int32)), (.int v25), (.int (15 : Int32))])) _
            refine XS.iushr X0.here hx rfl (hb hby d3_76) rfl ?_
            show Steps p.tables e below (s₁.setTop (mkF m 77 #[.val (.int v25), .val (.int (15 : Int32))] [(.int ((v25.toUInt32 >>> ((1 : Int32) &&& 31).toUInt32).toInt32)), (.int (15 : Int32))])) _
            refine XS.isub X0.here hx rfl (hb hby d3_77) rfl ?_
            show Steps p.tables e below (s₁.setTop (mkF m 78 #[.val (.int v25), .val (.int (15 : Int32))] [(.int ((15 : Int32) - ((v25.toUInt32 >>> ((1 : Int32) &&& 31).toUInt32).toInt32)))])) _
            exact retI X0 hx Bd.returns (hb hby d3_78) hr
          · show Q3 Z p0  h0 n0 _ s₁.heap _
            rw [e0]
            have r := rng32 p0
            have hp' := Int32.lt_iff_toInt_lt.mp hp
            rw [own_z0] at hp'
            have k22 := mt Int32.lt_iff_toInt_lt.mpr hc22_3
            rw [show (65536 : Int32).toInt = 65536 from by decide] at k22
            have s22 := own_sh p0 (16 : Int32) 16 65536 (by decide) (by decide) (by decide) (by omega)
            rw [← ev25] at s22
            have k37 := Int32.lt_iff_toInt_lt.mp hc37_27
            rw [show (256 : Int32).toInt = 256 from by decide] at k37
            have k51 := Int32.lt_iff_toInt_lt.mp hc51_29
            rw [show (16 : Int32).toInt = 16 from by decide] at k51
            have k63 := Int32.lt_iff_toInt_lt.mp hc63_31
            rw [show (4 : Int32).toInt = 4 from by decide] at k63
            have sf := own_sh v25 (1 : Int32) 1 2 (by decide) (by decide) (by decide) (by omega)
            have hl : ((15 : Int32)).toInt = 15 := by decide
            have hs := c_isub ((15 : Int32)) ((v25.toUInt32 >>> ((1 : Int32) &&& 31).toUInt32).toInt32)
            have hr := rng32 ((15 : Int32) - ((v25.toUInt32 >>> ((1 : Int32) &&& 31).toUInt32).toInt32))
            by_cases hy : v25.toInt < 2
            · refine ⟨_, 16, rfl, N0, rfl, ?_, ?_, ?_, ?_⟩ <;> omega
            · refine ⟨_, 17, rfl, N0, rfl, ?_, ?_, ?_, ?_⟩ <;> omega
        · have K : ∀ target, Steps p.tables e below (s₁.setTop (mkF m 66 #[.val (.int v25), .val (.int (15 : Int32))] [])) target → Steps p.tables e below (s₁.setTop (mkF m 63 #[.val (.int v25), .val (.int (15 : Int32))] [(.int (4 : Int32)), (.int v25)])) target := by
            intro target kt
            refine XS.icmpNo X0.here hx rfl (hb hby d3_63) rfl (flt hc63_31).1 ?_
            exact kt
          refine Done.of ?_ K
          obtain ⟨v32, ev32⟩ : ∃ z : Int32, z = ((v25.toUInt32 >>> ((2 : Int32) &&& 31).toUInt32).toInt32) := ⟨_, rfl⟩
          obtain ⟨fs, hr, hrun, hended, hW, hsame⟩ := X0.leave (v := some (.int ((13 : Int32) - ((v32.toUInt32 >>> ((1 : Int32) &&& 31).toUInt32).toInt32)))) (fun h => by rw [Bd.returns] at h; cases h)
          refine ⟨_, _, ?_, hrun, hended, _, _, rfl, ?_, ⟨_, rfl⟩, hW, hsame.mono (by decide) (by decide)⟩
          · show Steps p.tables e below (s₁.setTop (mkF m 66 #[.val (.int v25), .val (.int (15 : Int32))] [])) _
            refine XS.iinc X0.here hx rfl (hb hby d3_66) rfl (l' := #[.val (.int v25), .val (.int ((15 : Int32) + (-2 : Int32)))]) rfl ?_
            rw [show ((15 : Int32) + (-2 : Int32)) = (13 : Int32) from by decide]
            show Steps p.tables e below (s₁.setTop (mkF m 69 #[.val (.int v25), .val (.int (13 : Int32))] [])) _
            refine XS.iloadN X0.here hx rfl (hb hby d3_69) rfl ?_
            show Steps p.tables e below (s₁.setTop (mkF m 70 #[.val (.int v25), .val (.int (13 : Int32))] [(.int v25)])) _
            refine XS.iconst X0.here hx rfl (hb hby d3_70) ?_
            show Steps p.tables e below (s₁.setTop (mkF m 71 #[.val (.int v25), .val (.int (13 : Int32))] [(.int (2 : Int32)), (.int v25)])) _
            refine XS.iushr X0.here hx rfl (hb hby d3_71) rfl ?_
            show Steps p.tables e below (s₁.setTop (mkF m 72 #[.val (.int v25), .val (.int (13 : Int32))] [(.int ((v25.toUInt32 >>> ((2 : Int32) &&& 31).toUInt32).toInt32))])) _
            rw [← ev32]
            show Steps p.tables e below (s₁.setTop (mkF m 72 #[.val (.int v25), .val (.int (13 : Int32))] [(.int v32)])) _
            refine XS.istoreN X0.here hx rfl (hb hby d3_72) rfl (l' := #[.val (.int v32), .val (.int (13 : Int32))]) rfl ?_
            show Steps p.tables e below (s₁.setTop (mkF m 73 #[.val (.int v32), .val (.int (13 : Int32))] [])) _
            refine XS.iloadN X0.here hx rfl (hb hby d3_73) rfl ?_
            show Steps p.tables e below (s₁.setTop (mkF m 74 #[.val (.int v32), .val (.int (13 : Int32))] [(.int (13 : Int32))])) _
            refine XS.iloadN X0.here hx rfl (hb hby d3_74) rfl ?_
            show Steps p.tables e below (s₁.setTop (mkF m 75 #[.val (.int v32), .val (.int (13 : Int32))] [(.int v32), (.int (13 : Int32))])) _
            refine XS.iconst X0.here hx rfl (hb hby d3_75) ?_
            show Steps p.tables e below (s₁.setTop (mkF m 76 #[.val (.int v32), .val (.int (13 : Int32))] [(.int (1 : Int32)), (.int v32), (.int (13 : Int32))])) _
            refine XS.iushr X0.here hx rfl (hb hby d3_76) rfl ?_
            show Steps p.tables e below (s₁.setTop (mkF m 77 #[.val (.int v32), .val (.int (13 : Int32))] [(.int ((v32.toUInt32 >>> ((1 : Int32) &&& 31).toUInt32).toInt32)), (.int (13 : Int32))])) _
            refine XS.isub X0.here hx rfl (hb hby d3_77) rfl ?_
            show Steps p.tables e below (s₁.setTop (mkF m 78 #[.val (.int v32), .val (.int (13 : Int32))] [(.int ((13 : Int32) - ((v32.toUInt32 >>> ((1 : Int32) &&& 31).toUInt32).toInt32)))])) _
            exact retI X0 hx Bd.returns (hb hby d3_78) hr
          · show Q3 Z p0  h0 n0 _ s₁.heap _
            rw [e0]
            have r := rng32 p0
            have hp' := Int32.lt_iff_toInt_lt.mp hp
            rw [own_z0] at hp'
            have k22 := mt Int32.lt_iff_toInt_lt.mpr hc22_3
            rw [show (65536 : Int32).toInt = 65536 from by decide] at k22
            have s22 := own_sh p0 (16 : Int32) 16 65536 (by decide) (by decide) (by decide) (by omega)
            rw [← ev25] at s22
            have k37 := Int32.lt_iff_toInt_lt.mp hc37_27
            rw [show (256 : Int32).toInt = 256 from by decide] at k37
            have k51 := Int32.lt_iff_toInt_lt.mp hc51_29
            rw [show (16 : Int32).toInt = 16 from by decide] at k51
            have k63 := mt Int32.lt_iff_toInt_lt.mpr hc63_31
            rw [show (4 : Int32).toInt = 4 from by decide] at k63
            have s63 := own_sh v25 (2 : Int32) 2 4 (by decide) (by decide) (by decide) (by omega)
            rw [← ev32] at s63
            have sf := own_sh v32 (1 : Int32) 1 2 (by decide) (by decide) (by decide) (by omega)
            have hl : ((13 : Int32)).toInt = 13 := by decide
            have hs := c_isub ((13 : Int32)) ((v32.toUInt32 >>> ((1 : Int32) &&& 31).toUInt32).toInt32)
            have hr := rng32 ((13 : Int32) - ((v32.toUInt32 >>> ((1 : Int32) &&& 31).toUInt32).toInt32))
            by_cases hy : v32.toInt < 2
            · refine ⟨_, 18, rfl, N0, rfl, ?_, ?_, ?_, ?_⟩ <;> omega
            · refine ⟨_, 19, rfl, N0, rfl, ?_, ?_, ?_, ?_⟩ <;> omega
      · have K : ∀ target, Steps p.tables e below (s₁.setTop (mkF m 54 #[.val (.int v25), .val (.int (15 : Int32))] [])) target → Steps p.tables e below (s₁.setTop (mkF m 51 #[.val (.int v25), .val (.int (15 : Int32))] [(.int (16 : Int32)), (.int v25)])) target := by
          intro target kt
          refine XS.icmpNo X0.here hx rfl (hb hby d3_51) rfl (flt hc51_29).1 ?_
          exact kt
        refine Done.of ?_ K
        obtain ⟨v33, ev33⟩ : ∃ z : Int32, z = ((v25.toUInt32 >>> ((4 : Int32) &&& 31).toUInt32).toInt32) := ⟨_, rfl⟩
        have K34 : ∀ target, Steps p.tables e below (s₁.setTop (mkF m 63 #[.val (.int v33), .val (.int (11 : Int32))] [(.int (4 : Int32)), (.int v33)])) target → Steps p.tables e below (s₁.setTop (mkF m 54 #[.val (.int v25), .val (.int (15 : Int32))] [])) target := by
          intro target kt
          show Steps p.tables e below (s₁.setTop (mkF m 54 #[.val (.int v25), .val (.int (15 : Int32))] [])) _
          refine XS.iinc X0.here hx rfl (hb hby d3_54) rfl (l' := #[.val (.int v25), .val (.int ((15 : Int32) + (-4 : Int32)))]) rfl ?_
          rw [show ((15 : Int32) + (-4 : Int32)) = (11 : Int32) from by decide]
          show Steps p.tables e below (s₁.setTop (mkF m 57 #[.val (.int v25), .val (.int (11 : Int32))] [])) _
          refine XS.iloadN X0.here hx rfl (hb hby d3_57) rfl ?_
          show Steps p.tables e below (s₁.setTop (mkF m 58 #[.val (.int v25), .val (.int (11 : Int32))] [(.int v25)])) _
          refine XS.iconst X0.here hx rfl (hb hby d3_58) ?_
          show Steps p.tables e below (s₁.setTop (mkF m 59 #[.val (.int v25), .val (.int (11 : Int32))] [(.int (4 : Int32)), (.int v25)])) _
          refine XS.iushr X0.here hx rfl (hb hby d3_59) rfl ?_
          show Steps p.tables e below (s₁.setTop (mkF m 60 #[.val (.int v25), .val (.int (11 : Int32))] [(.int ((v25.toUInt32 >>> ((4 : Int32) &&& 31).toUInt32).toInt32))])) _
          rw [← ev33]
          show Steps p.tables e below (s₁.setTop (mkF m 60 #[.val (.int v25), .val (.int (11 : Int32))] [(.int v33)])) _
          refine XS.istoreN X0.here hx rfl (hb hby d3_60) rfl (l' := #[.val (.int v33), .val (.int (11 : Int32))]) rfl ?_
          show Steps p.tables e below (s₁.setTop (mkF m 61 #[.val (.int v33), .val (.int (11 : Int32))] [])) _
          refine XS.iloadN X0.here hx rfl (hb hby d3_61) rfl ?_
          show Steps p.tables e below (s₁.setTop (mkF m 62 #[.val (.int v33), .val (.int (11 : Int32))] [(.int v33)])) _
          refine XS.iconst X0.here hx rfl (hb hby d3_62) ?_
          exact kt
        refine Done.of ?_ K34
        by_cases hc63_35 : v33 < (4 : Int32)
        · have K : ∀ target, Steps p.tables e below (s₁.setTop (mkF m 73 #[.val (.int v33), .val (.int (11 : Int32))] [])) target → Steps p.tables e below (s₁.setTop (mkF m 63 #[.val (.int v33), .val (.int (11 : Int32))] [(.int (4 : Int32)), (.int v33)])) target := by
            intro target kt
            refine XS.icmpYes X0.here hx rfl (pc0 := 63) (pc' := 73) rfl (hb hby d3_63) rfl (tlt hc63_35).1 (by decide) (by decide) ?_
            exact kt
          refine Done.of ?_ K
          obtain ⟨fs, hr, hrun, hended, hW, hsame⟩ := X0.leave (v := some (.int ((11 : Int32) - ((v33.toUInt32 >>> ((1 : Int32) &&& 31).toUInt32).toInt32)))) (fun h => by rw [Bd.returns] at h; cases h)
          refine ⟨_, _, ?_, hrun, hended, _, _, rfl, ?_, ⟨_, rfl⟩, hW, hsame.mono (by decide) (by decide)⟩
          · show Steps p.tables e below (s₁.setTop (mkF m 73 #[.val (.int v33), .val (.int (11 : Int32))] [])) _
            refine XS.iloadN X0.here hx rfl (hb hby d3_73) rfl ?_
            show Steps p.tables e below (s₁.setTop (mkF m 74 #[.val (.int v33), .val (.int (11 : Int32))] [(.int (11 : Int32))])) _
            refine XS.iloadN X0.here hx rfl (hb hby d3_74) rfl ?_
            show Steps p.tables e below (s₁.setTop (mkF m 75 #[.val (.int v33), .val (.int (11 : Int32))] [(.int v33), (.int (11 : Int32))])) _
            refine XS.iconst X0.here hx rfl (hb hby d3_75) ?_
            show Steps p.tables e below (s₁.setTop (mkF m 76 #[.val (.int v33), .val (.int (11 : Int32))] [(.int (1 : Int32)), (.int v33), (.int (11 : Int32))])) _
            refine XS.iushr X0.here hx rfl (hb hby d3_76) rfl ?_
            show Steps p.tables e below (s₁.setTop (mkF m 77 #[.val (.int v33), .val (.int (11 : Int32))] [(.int ((v33.toUInt32 >>> ((1 : Int32) &&& 31).toUInt32).toInt32)), (.int (11 : Int32))])) _
            refine XS.isub X0.here hx rfl (hb hby d3_77) rfl ?_
            show Steps p.tables e below (s₁.setTop (mkF m 78 #[.val (.int v33), .val (.int (11 : Int32))] [(.int ((11 : Int32) - ((v33.toUInt32 >>> ((1 : Int32) &&& 31).toUInt32).toInt32)))])) _
            exact retI X0 hx Bd.returns (hb hby d3_78) hr
          · show Q3 Z p0  h0 n0 _ s₁.heap _
            rw [e0]
            have r := rng32 p0
            have hp' := Int32.lt_iff_toInt_lt.mp hp
            rw [own_z0] at hp'
            have k22 := mt Int32.lt_iff_toInt_lt.mpr hc22_3
            rw [show (65536 : Int32).toInt = 65536 from by decide] at k22
            have s22 := own_sh p0 (16 : Int32) 16 65536 (by decide) (by decide) (by decide) (by omega)
            rw [← ev25] at s22
            have k37 := Int32.lt_iff_toInt_lt.mp hc37_27
            rw [show (256 : Int32).toInt = 256 from by decide] at k37
            have k51 := mt Int32.lt_iff_toInt_lt.mpr hc51_29
            rw [show (16 : Int32).toInt = 16 from by decide] at k51
            have s51 := own_sh v25 (4 : Int32) 4 16 (by decide) (by decide) (by decide) (by omega)
            rw [← ev33] at s51
            have k63 := Int32.lt_iff_toInt_lt.mp hc63_35
            rw [show (4 : Int32).toInt = 4 from by decide] at k63
            have sf := own_sh v33 (1 : Int32) 1 2 (by decide) (by decide) (by decide) (by omega)
            have hl : ((11 : Int32)).toInt = 11 := by decide
            have hs := c_isub ((11 : Int32)) ((v33.toUInt32 >>> ((1 : Int32) &&& 31).toUInt32).toInt32)
            have hr := rng32 ((11 : Int32) - ((v33.toUInt32 >>> ((1 : Int32) &&& 31).toUInt32).toInt32))
            by_cases hy : v33.toInt < 2
            · refine ⟨_, 20, rfl, N0, rfl, ?_, ?_, ?_, ?_⟩ <;> omega
            · refine ⟨_, 21, rfl, N0, rfl, ?_, ?_, ?_, ?_⟩ <;> omega
        · have K : ∀ target, Steps p.tables e below (s₁.setTop (mkF m 66 #[.val (.int v33), .val (.int (11 : Int32))] [])) target → Steps p.tables e below (s₁.setTop (mkF m 63 #[.val (.int v33), .val (.int (11 : Int32))] [(.int (4 : Int32)), (.int v33)])) target := by
            intro target kt
            refine XS.icmpNo X0.here hx rfl (hb hby d3_63) rfl (flt hc63_35).1 ?_
            exact kt
          refine Done.of ?_ K
          obtain ⟨v36, ev36⟩ : ∃ z : Int32, z = ((v33.toUInt32 >>> ((2 : Int32) &&& 31).toUInt32).toInt32) := ⟨_, rfl⟩
          obtain ⟨fs, hr, hrun, hended, hW, hsame⟩ := X0.leave (v := some (.int ((9 : Int32) - ((v36.toUInt32 >>> ((1 : Int32) &&& 31).toUInt32).toInt32)))) (fun h => by rw [Bd.returns] at h; cases h)
          refine ⟨_, _, ?_, hrun, hended, _, _, rfl, ?_, ⟨_, rfl⟩, hW, hsame.mono (by decide) (by decide)⟩
          · show Steps p.tables e below (s₁.setTop (mkF m 66 #[.val (.int v33), .val (.int (11 : Int32))] [])) _
            refine XS.iinc X0.here hx rfl (hb hby d3_66) rfl (l' := #[.val (.int v33), .val (.int ((11 : Int32) + (-2 : Int32)))]) rfl ?_
            rw [show ((11 : Int32) + (-2 : Int32)) = (9 : Int32) from by decide]
            show Steps p.tables e below (s₁.setTop (mkF m 69 #[.val (.int v33), .val (.int (9 : Int32))] [])) _
            refine XS.iloadN X0.here hx rfl (hb hby d3_69) rfl ?_
            show Steps p.tables e below (s₁.setTop (mkF m 70 #[.val (.int v33), .val (.int (9 : Int32))] [(.int v33)])) _
            refine XS.iconst X0.here hx rfl (hb hby d3_70) ?_
            show Steps p.tables e below (s₁.setTop (mkF m 71 #[.val (.int v33), .val (.int (9 : Int32))] [(.int (2 : Int32)), (.int v33)])) _
            refine XS.iushr X0.here hx rfl (hb hby d3_71) rfl ?_
            show Steps p.tables e below (s₁.setTop (mkF m 72 #[.val (.int v33), .val (.int (9 : Int32))] [(.int ((v33.toUInt32 >>> ((2 : Int32) &&& 31).toUInt32).toInt32))])) _
            rw [← ev36]
            show Steps p.tables e below (s₁.setTop (mkF m 72 #[.val (.int v33), .val (.int (9 : Int32))] [(.int v36)])) _
            refine XS.istoreN X0.here hx rfl (hb hby d3_72) rfl (l' := #[.val (.int v36), .val (.int (9 : Int32))]) rfl ?_
            show Steps p.tables e below (s₁.setTop (mkF m 73 #[.val (.int v36), .val (.int (9 : Int32))] [])) _
            refine XS.iloadN X0.here hx rfl (hb hby d3_73) rfl ?_
            show Steps p.tables e below (s₁.setTop (mkF m 74 #[.val (.int v36), .val (.int (9 : Int32))] [(.int (9 : Int32))])) _
            refine XS.iloadN X0.here hx rfl (hb hby d3_74) rfl ?_
            show Steps p.tables e below (s₁.setTop (mkF m 75 #[.val (.int v36), .val (.int (9 : Int32))] [(.int v36), (.int (9 : Int32))])) _
            refine XS.iconst X0.here hx rfl (hb hby d3_75) ?_
            show Steps p.tables e below (s₁.setTop (mkF m 76 #[.val (.int v36), .val (.int (9 : Int32))] [(.int (1 : Int32)), (.int v36), (.int (9 : Int32))])) _
            refine XS.iushr X0.here hx rfl (hb hby d3_76) rfl ?_
            show Steps p.tables e below (s₁.setTop (mkF m 77 #[.val (.int v36), .val (.int (9 : Int32))] [(.int ((v36.toUInt32 >>> ((1 : Int32) &&& 31).toUInt32).toInt32)), (.int (9 : Int32))])) _
            refine XS.isub X0.here hx rfl (hb hby d3_77) rfl ?_
            show Steps p.tables e below (s₁.setTop (mkF m 78 #[.val (.int v36), .val (.int (9 : Int32))] [(.int ((9 : Int32) - ((v36.toUInt32 >>> ((1 : Int32) &&& 31).toUInt32).toInt32)))])) _
            exact retI X0 hx Bd.returns (hb hby d3_78) hr
          · show Q3 Z p0  h0 n0 _ s₁.heap _
            rw [e0]
            have r := rng32 p0
            have hp' := Int32.lt_iff_toInt_lt.mp hp
            rw [own_z0] at hp'
            have k22 := mt Int32.lt_iff_toInt_lt.mpr hc22_3
            rw [show (65536 : Int32).toInt = 65536 from by decide] at k22
            have s22 := own_sh p0 (16 : Int32) 16 65536 (by decide) (by decide) (by decide) (by omega)
            rw [← ev25] at s22
            have k37 := Int32.lt_iff_toInt_lt.mp hc37_27
            rw [show (256 : Int32).toInt = 256 from by decide] at k37
            have k51 := mt Int32.lt_iff_toInt_lt.mpr hc51_29
            rw [show (16 : Int32).toInt = 16 from by decide] at k51
            have s51 := own_sh v25 (4 : Int32) 4 16 (by decide) (by decide) (by decide) (by omega)
            rw [← ev33] at s51
            have k63 := mt Int32.lt_iff_toInt_lt.mpr hc63_35
            rw [show (4 : Int32).toInt = 4 from by decide] at k63
            have s63 := own_sh v33 (2 : Int32) 2 4 (by decide) (by decide) (by decide) (by omega)
            rw [← ev36] at s63
            have sf := own_sh v36 (1 : Int32) 1 2 (by decide) (by decide) (by decide) (by omega)
            have hl : ((9 : Int32)).toInt = 9 := by decide
            have hs := c_isub ((9 : Int32)) ((v36.toUInt32 >>> ((1 : Int32) &&& 31).toUInt32).toInt32)
            have hr := rng32 ((9 : Int32) - ((v36.toUInt32 >>> ((1 : Int32) &&& 31).toUInt32).toInt32))
            by_cases hy : v36.toInt < 2
            · refine ⟨_, 22, rfl, N0, rfl, ?_, ?_, ?_, ?_⟩ <;> omega
            · refine ⟨_, 23, rfl, N0, rfl, ?_, ?_, ?_, ?_⟩ <;> omega
    · have K : ∀ target, Steps p.tables e below (s₁.setTop (mkF m 40 #[.val (.int v25), .val (.int (15 : Int32))] [])) target → Steps p.tables e below (s₁.setTop (mkF m 37 #[.val (.int v25), .val (.int (15 : Int32))] [(.int (256 : Int32)), (.int v25)])) target := by
        intro target kt
        refine XS.icmpNo X0.here hx rfl (hb hby d3_37) rfl (flt hc37_27).1 ?_
        exact kt
      refine Done.of ?_ K
      obtain ⟨v37, ev37⟩ : ∃ z : Int32, z = ((v25.toUInt32 >>> ((8 : Int32) &&& 31).toUInt32).toInt32) := ⟨_, rfl⟩
      have K38 : ∀ target, Steps p.tables e below (s₁.setTop (mkF m 51 #[.val (.int v37), .val (.int (7 : Int32))] [(.int (16 : Int32)), (.int v37)])) target → Steps p.tables e below (s₁.setTop (mkF m 40 #[.val (.int v25), .val (.int (15 : Int32))] [])) target := by
        intro target kt
        show Steps p.tables e below (s₁.setTop (mkF m 40 #[.val (.int v25), .val (.int (15 : Int32))] [])) _
        refine XS.iinc X0.here hx rfl (hb hby d3_40) rfl (l' := #[.val (.int v25), .val (.int ((15 : Int32) + (-8 : Int32)))]) rfl ?_
        rw [show ((15 : Int32) + (-8 : Int32)) = (7 : Int32) from by decide]
        show Steps p.tables e below (s₁.setTop (mkF m 43 #[.val (.int v25), .val (.int (7 : Int32))] [])) _
        refine XS.iloadN X0.here hx rfl (hb hby d3_43) rfl ?_
        show Steps p.tables e below (s₁.setTop (mkF m 44 #[.val (.int v25), .val (.int (7 : Int32))] [(.int v25)])) _
        refine XS.bipush X0.here hx rfl (hb hby d3_44) ?_
        show Steps p.tables e below (s₁.setTop (mkF m 46 #[.val (.int v25), .val (.int (7 : Int32))] [(.int (8 : Int32)), (.int v25)])) _
        refine XS.iushr X0.here hx rfl (hb hby d3_46) rfl ?_
        show Steps p.tables e below (s₁.setTop (mkF m 47 #[.val (.int v25), .val (.int (7 : Int32))] [(.int ((v25.toUInt32 >>> ((8 : Int32) &&& 31).toUInt32).toInt32))])) _
        rw [← ev37]
        show Steps p.tables e below (s₁.setTop (mkF m 47 #[.val (.int v25), .val (.int (7 : Int32))] [(.int v37)])) _
        refine XS.istoreN X0.here hx rfl (hb hby d3_47) rfl (l' := #[.val (.int v37), .val (.int (7 : Int32))]) rfl ?_
        show Steps p.tables e below (s₁.setTop (mkF m 48 #[.val (.int v37), .val (.int (7 : Int32))] [])) _
        refine XS.iloadN X0.here hx rfl (hb hby d3_48) rfl ?_
        show Steps p.tables e below (s₁.setTop (mkF m 49 #[.val (.int v37), .val (.int (7 : Int32))] [(.int v37)])) _
        refine XS.bipush X0.here hx rfl (hb hby d3_49) ?_
        exact kt
      refine Done.of ?_ K38
      by_cases hc51_39 : v37 < (16 : Int32)
      · have K : ∀ target, Steps p.tables e below (s₁.setTop (mkF m 61 #[.val (.int v37), .val (.int (7 : Int32))] [])) target → Steps p.tables e below (s₁.setTop (mkF m 51 #[.val (.int v37), .val (.int (7 : Int32))] [(.int (16 : Int32)), (.int v37)])) target := by
          intro target kt
          refine XS.icmpYes X0.here hx rfl (pc0 := 51) (pc' := 61) rfl (hb hby d3_51) rfl (tlt hc51_39).1 (by decide) (by decide) ?_
          exact kt
        refine Done.of ?_ K
        have K40 : ∀ target, Steps p.tables e below (s₁.setTop (mkF m 63 #[.val (.int v37), .val (.int (7 : Int32))] [(.int (4 : Int32)), (.int v37)])) target → Steps p.tables e below (s₁.setTop (mkF m 61 #[.val (.int v37), .val (.int (7 : Int32))] [])) target := by
          intro target kt
          show Steps p.tables e below (s₁.setTop (mkF m 61 #[.val (.int v37), .val (.int (7 : Int32))] [])) _
          refine XS.iloadN X0.here hx rfl (hb hby d3_61) rfl ?_
          show Steps p.tables e below (s₁.setTop (mkF m 62 #[.val (.int v37), .val (.int (7 : Int32))] [(.int v37)])) _
          refine XS.iconst X0.here hx rfl (hb hby d3_62) ?_
          exact kt
        refine Done.of ?_ K40
        by_cases hc63_41 : v37 < (4 : Int32)
        · have K : ∀ target, Steps p.tables e below (s₁.setTop (mkF m 73 #[.val (.int v37), .val (.int (7 : Int32))] [])) target → Steps p.tables e below (s₁.setTop (mkF m 63 #[.val (.int v37), .val (.int (7 : Int32))] [(.int (4 : Int32)), (.int v37)])) target := by
            intro target kt
            refine XS.icmpYes X0.here hx rfl (pc0 := 63) (pc' := 73) rfl (hb hby d3_63) rfl (tlt hc63_41).1 (by decide) (by decide) ?_
            exact kt
          refine Done.of ?_ K
          obtain ⟨fs, hr, hrun, hended, hW, hsame⟩ := X0.leave (v := some (.int ((7 : Int32) - ((v37.toUInt32 >>> ((1 : Int32) &&& 31).toUInt32).toInt32)))) (fun h => by rw [Bd.returns] at h; cases h)
          refine ⟨_, _, ?_, hrun, hended, _, _, rfl, ?_, ⟨_, rfl⟩, hW, hsame.mono (by decide) (by decide)⟩
          · show Steps p.tables e below (s₁.setTop (mkF m 73 #[.val (.int v37), .val (.int (7 : Int32))] [])) _
            refine XS.iloadN X0.here hx rfl (hb hby d3_73) rfl ?_
            show Steps p.tables e below (s₁.setTop (mkF m 74 #[.val (.int v37), .val (.int (7 : Int32))] [(.int (7 : Int32))])) _
            refine XS.iloadN X0.here hx rfl (hb hby d3_74) rfl ?_
            show Steps p.tables e below (s₁.setTop (mkF m 75 #[.val (.int v37), .val (.int (7 : Int32))] [(.int v37), (.int (7 : Int32))])) _
            refine XS.iconst X0.here hx rfl (hb hby d3_75) ?_
            show Steps p.tables e below (s₁.setTop (mkF m 76 #[.val (.int v37), .val (.int (7 : Int32))] [(.int (1 : Int32)), (.int v37), (.int (7 : Int32))])) _
            refine XS.iushr X0.here hx rfl (hb hby d3_76) rfl ?_
            show Steps p.tables e below (s₁.setTop (mkF m 77 #[.val (.int v37), .val (.int (7 : Int32))] [(.int ((v37.toUInt32 >>> ((1 : Int32) &&& 31).toUInt32).toInt32)), (.int (7 : Int32))])) _
            refine XS.isub X0.here hx rfl (hb hby d3_77) rfl ?_
            show Steps p.tables e below (s₁.setTop (mkF m 78 #[.val (.int v37), .val (.int (7 : Int32))] [(.int ((7 : Int32) - ((v37.toUInt32 >>> ((1 : Int32) &&& 31).toUInt32).toInt32)))])) _
            exact retI X0 hx Bd.returns (hb hby d3_78) hr
          · show Q3 Z p0  h0 n0 _ s₁.heap _
            rw [e0]
            have r := rng32 p0
            have hp' := Int32.lt_iff_toInt_lt.mp hp
            rw [own_z0] at hp'
            have k22 := mt Int32.lt_iff_toInt_lt.mpr hc22_3
            rw [show (65536 : Int32).toInt = 65536 from by decide] at k22
            have s22 := own_sh p0 (16 : Int32) 16 65536 (by decide) (by decide) (by decide) (by omega)
            rw [← ev25] at s22
            have k37 := mt Int32.lt_iff_toInt_lt.mpr hc37_27
            rw [show (256 : Int32).toInt = 256 from by decide] at k37
            have s37 := own_sh v25 (8 : Int32) 8 256 (by decide) (by decide) (by decide) (by omega)
            rw [← ev37] at s37
            have k51 := Int32.lt_iff_toInt_lt.mp hc51_39
            rw [show (16 : Int32).toInt = 16 from by decide] at k51
            have k63 := Int32.lt_iff_toInt_lt.mp hc63_41
            rw [show (4 : Int32).toInt = 4 from by decide] at k63
            have sf := own_sh v37 (1 : Int32) 1 2 (by decide) (by decide) (by decide) (by omega)
            have hl : ((7 : Int32)).toInt = 7 := by decide
            have hs := c_isub ((7 : Int32)) ((v37.toUInt32 >>> ((1 : Int32) &&& 31).toUInt32).toInt32)
            have hr := rng32 ((7 : Int32) - ((v37.toUInt32 >>> ((1 : Int32) &&& 31).toUInt32).toInt32))
            by_cases hy : v37.toInt < 2
            · refine ⟨_, 24, rfl, N0, rfl, ?_, ?_, ?_, ?_⟩ <;> omega
            · refine ⟨_, 25, rfl, N0, rfl, ?_, ?_, ?_, ?_⟩ <;> omega
        · have K : ∀ target, Steps p.tables e below (s₁.setTop (mkF m 66 #[.val (.int v37), .val (.int (7 : Int32))] [])) target → Steps p.tables e below (s₁.setTop (mkF m 63 #[.val (.int v37), .val (.int (7 : Int32))] [(.int (4 : Int32)), (.int v37)])) target := by
            intro target kt
            refine XS.icmpNo X0.here hx rfl (hb hby d3_63) rfl (flt hc63_41).1 ?_
            exact kt
          refine Done.of ?_ K
          obtain ⟨v42, ev42⟩ : ∃ z : Int32, z = ((v37.toUInt32 >>> ((2 : Int32) &&& 31).toUInt32).toInt32) := ⟨_, rfl⟩
          obtain ⟨fs, hr, hrun, hended, hW, hsame⟩ := X0.leave (v := some (.int ((5 : Int32) - ((v42.toUInt32 >>> ((1 : Int32) &&& 31).toUInt32).toInt32)))) (fun h => by rw [Bd.returns] at h; cases h)
          refine ⟨_, _, ?_, hrun, hended, _, _, rfl, ?_, ⟨_, rfl⟩, hW, hsame.mono (by decide) (by decide)⟩
          · show Steps p.tables e below (s₁.setTop (mkF m 66 #[.val (.int v37), .val (.int (7 : Int32))] [])) _
            refine XS.iinc X0.here hx rfl (hb hby d3_66) rfl (l' := #[.val (.int v37), .val (.int ((7 : Int32) + (-2 : Int32)))]) rfl ?_
            rw [show ((7 : Int32) + (-2 : Int32)) = (5 : Int32) from by decide]
            show Steps p.tables e below (s₁.setTop (mkF m 69 #[.val (.int v37), .val (.int (5 : Int32))] [])) _
            refine XS.iloadN X0.here hx rfl (hb hby d3_69) rfl ?_
            show Steps p.tables e below (s₁.setTop (mkF m 70 #[.val (.int v37), .val (.int (5 : Int32))] [(.int v37)])) _
            refine XS.iconst X0.here hx rfl (hb hby d3_70) ?_
            show Steps p.tables e below (s₁.setTop (mkF m 71 #[.val (.int v37), .val (.int (5 : Int32))] [(.int (2 : Int32)), (.int v37)])) _
            refine XS.iushr X0.here hx rfl (hb hby d3_71) rfl ?_
            show Steps p.tables e below (s₁.setTop (mkF m 72 #[.val (.int v37), .val (.int (5 : Int32))] [(.int ((v37.toUInt32 >>> ((2 : Int32) &&& 31).toUInt32).toInt32))])) _
            rw [← ev42]
            show Steps p.tables e below (s₁.setTop (mkF m 72 #[.val (.int v37), .val (.int (5 : Int32))] [(.int v42)])) _
            refine XS.istoreN X0.here hx rfl (hb hby d3_72) rfl (l' := #[.val (.int v42), .val (.int (5 : Int32))]) rfl ?_
            show Steps p.tables e below (s₁.setTop (mkF m 73 #[.val (.int v42), .val (.int (5 : Int32))] [])) _
            refine XS.iloadN X0.here hx rfl (hb hby d3_73) rfl ?_
            show Steps p.tables e below (s₁.setTop (mkF m 74 #[.val (.int v42), .val (.int (5 : Int32))] [(.int (5 : Int32))])) _
            refine XS.iloadN X0.here hx rfl (hb hby d3_74) rfl ?_
            show Steps p.tables e below (s₁.setTop (mkF m 75 #[.val (.int v42), .val (.int (5 : Int32))] [(.int v42), (.int (5 : Int32))])) _
            refine XS.iconst X0.here hx rfl (hb hby d3_75) ?_
            show Steps p.tables e below (s₁.setTop (mkF m 76 #[.val (.int v42), .val (.int (5 : Int32))] [(.int (1 : Int32)), (.int v42), (.int (5 : Int32))])) _
            refine XS.iushr X0.here hx rfl (hb hby d3_76) rfl ?_
            show Steps p.tables e below (s₁.setTop (mkF m 77 #[.val (.int v42), .val (.int (5 : Int32))] [(.int ((v42.toUInt32 >>> ((1 : Int32) &&& 31).toUInt32).toInt32)), (.int (5 : Int32))])) _
            refine XS.isub X0.here hx rfl (hb hby d3_77) rfl ?_
            show Steps p.tables e below (s₁.setTop (mkF m 78 #[.val (.int v42), .val (.int (5 : Int32))] [(.int ((5 : Int32) - ((v42.toUInt32 >>> ((1 : Int32) &&& 31).toUInt32).toInt32)))])) _
            exact retI X0 hx Bd.returns (hb hby d3_78) hr
          · show Q3 Z p0  h0 n0 _ s₁.heap _
            rw [e0]
            have r := rng32 p0
            have hp' := Int32.lt_iff_toInt_lt.mp hp
            rw [own_z0] at hp'
            have k22 := mt Int32.lt_iff_toInt_lt.mpr hc22_3
            rw [show (65536 : Int32).toInt = 65536 from by decide] at k22
            have s22 := own_sh p0 (16 : Int32) 16 65536 (by decide) (by decide) (by decide) (by omega)
            rw [← ev25] at s22
            have k37 := mt Int32.lt_iff_toInt_lt.mpr hc37_27
            rw [show (256 : Int32).toInt = 256 from by decide] at k37
            have s37 := own_sh v25 (8 : Int32) 8 256 (by decide) (by decide) (by decide) (by omega)
            rw [← ev37] at s37
            have k51 := Int32.lt_iff_toInt_lt.mp hc51_39
            rw [show (16 : Int32).toInt = 16 from by decide] at k51
            have k63 := mt Int32.lt_iff_toInt_lt.mpr hc63_41
            rw [show (4 : Int32).toInt = 4 from by decide] at k63
            have s63 := own_sh v37 (2 : Int32) 2 4 (by decide) (by decide) (by decide) (by omega)
            rw [← ev42] at s63
            have sf := own_sh v42 (1 : Int32) 1 2 (by decide) (by decide) (by decide) (by omega)
            have hl : ((5 : Int32)).toInt = 5 := by decide
            have hs := c_isub ((5 : Int32)) ((v42.toUInt32 >>> ((1 : Int32) &&& 31).toUInt32).toInt32)
            have hr := rng32 ((5 : Int32) - ((v42.toUInt32 >>> ((1 : Int32) &&& 31).toUInt32).toInt32))
            by_cases hy : v42.toInt < 2
            · refine ⟨_, 26, rfl, N0, rfl, ?_, ?_, ?_, ?_⟩ <;> omega
            · refine ⟨_, 27, rfl, N0, rfl, ?_, ?_, ?_, ?_⟩ <;> omega
      · have K : ∀ target, Steps p.tables e below (s₁.setTop (mkF m 54 #[.val (.int v37), .val (.int (7 : Int32))] [])) target → Steps p.tables e below (s₁.setTop (mkF m 51 #[.val (.int v37), .val (.int (7 : Int32))] [(.int (16 : Int32)), (.int v37)])) target := by
          intro target kt
          refine XS.icmpNo X0.here hx rfl (hb hby d3_51) rfl (flt hc51_39).1 ?_
          exact kt
        refine Done.of ?_ K
        obtain ⟨v43, ev43⟩ : ∃ z : Int32, z = ((v37.toUInt32 >>> ((4 : Int32) &&& 31).toUInt32).toInt32) := ⟨_, rfl⟩
        have K44 : ∀ target, Steps p.tables e below (s₁.setTop (mkF m 63 #[.val (.int v43), .val (.int (3 : Int32))] [(.int (4 : Int32)), (.int v43)])) target → Steps p.tables e below (s₁.setTop (mkF m 54 #[.val (.int v37), .val (.int (7 : Int32))] [])) target := by
          intro target kt
          show Steps p.tables e below (s₁.setTop (mkF m 54 #[.val (.int v37), .val (.int (7 : Int32))] [])) _
          refine XS.iinc X0.here hx rfl (hb hby d3_54) rfl (l' := #[.val (.int v37), .val (.int ((7 : Int32) + (-4 : Int32)))]) rfl ?_
          rw [show ((7 : Int32) + (-4 : Int32)) = (3 : Int32) from by decide]
          show Steps p.tables e below (s₁.setTop (mkF m 57 #[.val (.int v37), .val (.int (3 : Int32))] [])) _
          refine XS.iloadN X0.here hx rfl (hb hby d3_57) rfl ?_
          show Steps p.tables e below (s₁.setTop (mkF m 58 #[.val (.int v37), .val (.int (3 : Int32))] [(.int v37)])) _
          refine XS.iconst X0.here hx rfl (hb hby d3_58) ?_
          show Steps p.tables e below (s₁.setTop (mkF m 59 #[.val (.int v37), .val (.int (3 : Int32))] [(.int (4 : Int32)), (.int v37)])) _
          refine XS.iushr X0.here hx rfl (hb hby d3_59) rfl ?_
          show Steps p.tables e below (s₁.setTop (mkF m 60 #[.val (.int v37), .val (.int (3 : Int32))] [(.int ((v37.toUInt32 >>> ((4 : Int32) &&& 31).toUInt32).toInt32))])) _
          rw [← ev43]
          show Steps p.tables e below (s₁.setTop (mkF m 60 #[.val (.int v37), .val (.int (3 : Int32))] [(.int v43)])) _
          refine XS.istoreN X0.here hx rfl (hb hby d3_60) rfl (l' := #[.val (.int v43), .val (.int (3 : Int32))]) rfl ?_
          show Steps p.tables e below (s₁.setTop (mkF m 61 #[.val (.int v43), .val (.int (3 : Int32))] [])) _
          refine XS.iloadN X0.here hx rfl (hb hby d3_61) rfl ?_
          show Steps p.tables e below (s₁.setTop (mkF m 62 #[.val (.int v43), .val (.int (3 : Int32))] [(.int v43)])) _
          refine XS.iconst X0.here hx rfl (hb hby d3_62) ?_
          exact kt
        refine Done.of ?_ K44
        by_cases hc63_45 : v43 < (4 : Int32)
        · have K : ∀ target, Steps p.tables e below (s₁.setTop (mkF m 73 #[.val (.int v43), .val (.int (3 : Int32))] [])) target → Steps p.tables e below (s₁.setTop (mkF m 63 #[.val (.int v43), .val (.int (3 : Int32))] [(.int (4 : Int32)), (.int v43)])) target := by
            intro target kt
            refine XS.icmpYes X0.here hx rfl (pc0 := 63) (pc' := 73) rfl (hb hby d3_63) rfl (tlt hc63_45).1 (by decide) (by decide) ?_
            exact kt
          refine Done.of ?_ K
          obtain ⟨fs, hr, hrun, hended, hW, hsame⟩ := X0.leave (v := some (.int ((3 : Int32) - ((v43.toUInt32 >>> ((1 : Int32) &&& 31).toUInt32).toInt32)))) (fun h => by rw [Bd.returns] at h; cases h)
          refine ⟨_, _, ?_, hrun, hended, _, _, rfl, ?_, ⟨_, rfl⟩, hW, hsame.mono (by decide) (by decide)⟩
          · show Steps p.tables e below (s₁.setTop (mkF m 73 #[.val (.int v43), .val (.int (3 : Int32))] [])) _
            refine XS.iloadN X0.here hx rfl (hb hby d3_73) rfl ?_
            show Steps p.tables e below (s₁.setTop (mkF m 74 #[.val (.int v43), .val (.int (3 : Int32))] [(.int (3 : Int32))])) _
            refine XS.iloadN X0.here hx rfl (hb hby d3_74) rfl ?_
            show Steps p.tables e below (s₁.setTop (mkF m 75 #[.val (.int v43), .val (.int (3 : Int32))] [(.int v43), (.int (3 : Int32))])) _
            refine XS.iconst X0.here hx rfl (hb hby d3_75) ?_
            show Steps p.tables e below (s₁.setTop (mkF m 76 #[.val (.int v43), .val (.int (3 : Int32))] [(.int (1 : Int32)), (.int v43), (.int (3 : Int32))])) _
            refine XS.iushr X0.here hx rfl (hb hby d3_76) rfl ?_
            show Steps p.tables e below (s₁.setTop (mkF m 77 #[.val (.int v43), .val (.int (3 : Int32))] [(.int ((v43.toUInt32 >>> ((1 : Int32) &&& 31).toUInt32).toInt32)), (.int (3 : Int32))])) _
            refine XS.isub X0.here hx rfl (hb hby d3_77) rfl ?_
            show Steps p.tables e below (s₁.setTop (mkF m 78 #[.val (.int v43), .val (.int (3 : Int32))] [(.int ((3 : Int32) - ((v43.toUInt32 >>> ((1 : Int32) &&& 31).toUInt32).toInt32)))])) _
            exact retI X0 hx Bd.returns (hb hby d3_78) hr
          · show Q3 Z p0  h0 n0 _ s₁.heap _
            rw [e0]
            have r := rng32 p0
            have hp' := Int32.lt_iff_toInt_lt.mp hp
            rw [own_z0] at hp'
            have k22 := mt Int32.lt_iff_toInt_lt.mpr hc22_3
            rw [show (65536 : Int32).toInt = 65536 from by decide] at k22
            have s22 := own_sh p0 (16 : Int32) 16 65536 (by decide) (by decide) (by decide) (by omega)
            rw [← ev25] at s22
            have k37 := mt Int32.lt_iff_toInt_lt.mpr hc37_27
            rw [show (256 : Int32).toInt = 256 from by decide] at k37
            have s37 := own_sh v25 (8 : Int32) 8 256 (by decide) (by decide) (by decide) (by omega)
            rw [← ev37] at s37
            have k51 := mt Int32.lt_iff_toInt_lt.mpr hc51_39
            rw [show (16 : Int32).toInt = 16 from by decide] at k51
            have s51 := own_sh v37 (4 : Int32) 4 16 (by decide) (by decide) (by decide) (by omega)
            rw [← ev43] at s51
            have k63 := Int32.lt_iff_toInt_lt.mp hc63_45
            rw [show (4 : Int32).toInt = 4 from by decide] at k63
            have sf := own_sh v43 (1 : Int32) 1 2 (by decide) (by decide) (by decide) (by omega)
            have hl : ((3 : Int32)).toInt = 3 := by decide
            have hs := c_isub ((3 : Int32)) ((v43.toUInt32 >>> ((1 : Int32) &&& 31).toUInt32).toInt32)
            have hr := rng32 ((3 : Int32) - ((v43.toUInt32 >>> ((1 : Int32) &&& 31).toUInt32).toInt32))
            by_cases hy : v43.toInt < 2
            · refine ⟨_, 28, rfl, N0, rfl, ?_, ?_, ?_, ?_⟩ <;> omega
            · refine ⟨_, 29, rfl, N0, rfl, ?_, ?_, ?_, ?_⟩ <;> omega
        · have K : ∀ target, Steps p.tables e below (s₁.setTop (mkF m 66 #[.val (.int v43), .val (.int (3 : Int32))] [])) target → Steps p.tables e below (s₁.setTop (mkF m 63 #[.val (.int v43), .val (.int (3 : Int32))] [(.int (4 : Int32)), (.int v43)])) target := by
            intro target kt
            refine XS.icmpNo X0.here hx rfl (hb hby d3_63) rfl (flt hc63_45).1 ?_
            exact kt
          refine Done.of ?_ K
          obtain ⟨v46, ev46⟩ : ∃ z : Int32, z = ((v43.toUInt32 >>> ((2 : Int32) &&& 31).toUInt32).toInt32) := ⟨_, rfl⟩
          obtain ⟨fs, hr, hrun, hended, hW, hsame⟩ := X0.leave (v := some (.int ((1 : Int32) - ((v46.toUInt32 >>> ((1 : Int32) &&& 31).toUInt32).toInt32)))) (fun h => by rw [Bd.returns] at h; cases h)
          refine ⟨_, _, ?_, hrun, hended, _, _, rfl, ?_, ⟨_, rfl⟩, hW, hsame.mono (by decide) (by decide)⟩
          · show Steps p.tables e below (s₁.setTop (mkF m 66 #[.val (.int v43), .val (.int (3 : Int32))] [])) _
            refine XS.iinc X0.here hx rfl (hb hby d3_66) rfl (l' := #[.val (.int v43), .val (.int ((3 : Int32) + (-2 : Int32)))]) rfl ?_
            rw [show ((3 : Int32) + (-2 : Int32)) = (1 : Int32) from by decide]
            show Steps p.tables e below (s₁.setTop (mkF m 69 #[.val (.int v43), .val (.int (1 : Int32))] [])) _
            refine XS.iloadN X0.here hx rfl (hb hby d3_69) rfl ?_
            show Steps p.tables e below (s₁.setTop (mkF m 70 #[.val (.int v43), .val (.int (1 : Int32))] [(.int v43)])) _
            refine XS.iconst X0.here hx rfl (hb hby d3_70) ?_
            show Steps p.tables e below (s₁.setTop (mkF m 71 #[.val (.int v43), .val (.int (1 : Int32))] [(.int (2 : Int32)), (.int v43)])) _
            refine XS.iushr X0.here hx rfl (hb hby d3_71) rfl ?_
            show Steps p.tables e below (s₁.setTop (mkF m 72 #[.val (.int v43), .val (.int (1 : Int32))] [(.int ((v43.toUInt32 >>> ((2 : Int32) &&& 31).toUInt32).toInt32))])) _
            rw [← ev46]
            show Steps p.tables e below (s₁.setTop (mkF m 72 #[.val (.int v43), .val (.int (1 : Int32))] [(.int v46)])) _
            refine XS.istoreN X0.here hx rfl (hb hby d3_72) rfl (l' := #[.val (.int v46), .val (.int (1 : Int32))]) rfl ?_
            show Steps p.tables e below (s₁.setTop (mkF m 73 #[.val (.int v46), .val (.int (1 : Int32))] [])) _
            refine XS.iloadN X0.here hx rfl (hb hby d3_73) rfl ?_
            show Steps p.tables e below (s₁.setTop (mkF m 74 #[.val (.int v46), .val (.int (1 : Int32))] [(.int (1 : Int32))])) _
            refine XS.iloadN X0.here hx rfl (hb hby d3_74) rfl ?_
            show Steps p.tables e below (s₁.setTop (mkF m 75 #[.val (.int v46), .val (.int (1 : Int32))] [(.int v46), (.int (1 : Int32))])) _
            refine XS.iconst X0.here hx rfl (hb hby d3_75) ?_
            show Steps p.tables e below (s₁.setTop (mkF m 76 #[.val (.int v46), .val (.int (1 : Int32))] [(.int (1 : Int32)), (.int v46), (.int (1 : Int32))])) _
            refine XS.iushr X0.here hx rfl (hb hby d3_76) rfl ?_
            show Steps p.tables e below (s₁.setTop (mkF m 77 #[.val (.int v46), .val (.int (1 : Int32))] [(.int ((v46.toUInt32 >>> ((1 : Int32) &&& 31).toUInt32).toInt32)), (.int (1 : Int32))])) _
            refine XS.isub X0.here hx rfl (hb hby d3_77) rfl ?_
            show Steps p.tables e below (s₁.setTop (mkF m 78 #[.val (.int v46), .val (.int (1 : Int32))] [(.int ((1 : Int32) - ((v46.toUInt32 >>> ((1 : Int32) &&& 31).toUInt32).toInt32)))])) _
            exact retI X0 hx Bd.returns (hb hby d3_78) hr
          · show Q3 Z p0  h0 n0 _ s₁.heap _
            rw [e0]
            have r := rng32 p0
            have hp' := Int32.lt_iff_toInt_lt.mp hp
            rw [own_z0] at hp'
            have k22 := mt Int32.lt_iff_toInt_lt.mpr hc22_3
            rw [show (65536 : Int32).toInt = 65536 from by decide] at k22
            have s22 := own_sh p0 (16 : Int32) 16 65536 (by decide) (by decide) (by decide) (by omega)
            rw [← ev25] at s22
            have k37 := mt Int32.lt_iff_toInt_lt.mpr hc37_27
            rw [show (256 : Int32).toInt = 256 from by decide] at k37
            have s37 := own_sh v25 (8 : Int32) 8 256 (by decide) (by decide) (by decide) (by omega)
            rw [← ev37] at s37
            have k51 := mt Int32.lt_iff_toInt_lt.mpr hc51_39
            rw [show (16 : Int32).toInt = 16 from by decide] at k51
            have s51 := own_sh v37 (4 : Int32) 4 16 (by decide) (by decide) (by decide) (by omega)
            rw [← ev43] at s51
            have k63 := mt Int32.lt_iff_toInt_lt.mpr hc63_45
            rw [show (4 : Int32).toInt = 4 from by decide] at k63
            have s63 := own_sh v43 (2 : Int32) 2 4 (by decide) (by decide) (by decide) (by omega)
            rw [← ev46] at s63
            have sf := own_sh v46 (1 : Int32) 1 2 (by decide) (by decide) (by decide) (by omega)
            have hl : ((1 : Int32)).toInt = 1 := by decide
            have hs := c_isub ((1 : Int32)) ((v46.toUInt32 >>> ((1 : Int32) &&& 31).toUInt32).toInt32)
            have hr := rng32 ((1 : Int32) - ((v46.toUInt32 >>> ((1 : Int32) &&& 31).toUInt32).toInt32))
            by_cases hy : v46.toInt < 2
            · refine ⟨_, 30, rfl, N0, rfl, ?_, ?_, ?_, ?_⟩ <;> omega
            · exfalso; omega
theorem d1_0 : decode prog_6_method_2_code 0 = .ok (.bipush 32, 2) := by decide +kernel
theorem d1_2 : decode prog_6_method_2_code 2 = .ok (.iload_n 0, 1) := by decide +kernel
theorem d1_3 : decode prog_6_method_2_code 3 = .ok (.iconst 1, 1) := by decide +kernel
theorem d1_4 : decode prog_6_method_2_code 4 = .ok (.isub, 1) := by decide +kernel
theorem d1_5 : decode prog_6_method_2_code 5 = .ok (.iconst 1, 1) := by decide +kernel
theorem d1_6 : decode prog_6_method_2_code 6 = .ok (.invokestatic 7, 3) := by decide +kernel
theorem d1_9 : decode prog_6_method_2_code 9 = .ok (.invokestatic 13, 3) := by decide +kernel
theorem d1_12 : decode prog_6_method_2_code 12 = .ok (.isub, 1) := by decide +kernel
theorem d1_13 : decode prog_6_method_2_code 13 = .ok (.istore_n 1, 1) := by decide +kernel
theorem d1_14 : decode prog_6_method_2_code 14 = .ok (.iload_n 1, 1) := by decide +kernel
theorem d1_15 : decode prog_6_method_2_code 15 = .ok (.iconst 2, 1) := by decide +kernel
theorem d1_16 : decode prog_6_method_2_code 16 = .ok (.iadd, 1) := by decide +kernel
theorem d1_17 : decode prog_6_method_2_code 17 = .ok (.ireturn, 1) := by decide +kernel
theorem pn_1 : plainName "com/example/lotwise/lotwise/Halving" = true := by first | (simp [plainName, overriddenIn]; done) | decide +kernel
theorem pd_0 : parseMethodDescriptor "(II)I" = some ⟨[.int, .int], some .int⟩ := by decide +kernel
theorem pd_1 : parseMethodDescriptor "(I)I" = some ⟨[.int], some .int⟩ := by decide +kernel
theorem ef_1 (m : MethodId) (p0 : Int32)  : entryFrame m #[(.int p0)] 2 = mkF m 0 #[.val (.int p0), .unset] [] := by first | (simp [entryFrame, mkF, argsToLocals, Value.category]; done) | rfl
def Q1 (Z : State) (p0 : Int32) (h0 : Heap) (n0 : Nat) (v : Option Value) (h : Heap) (L : List Loc) : Prop := ∃ (d : Int32) (k : Nat), v = some (.int (d + (2 : Int32))) ∧ Fr n0 L ∧ h = h0 ∧ d.toInt = (k : Int) + 1 ∧ k ≤ 30 ∧ p0.toInt ≤ (2 : Int) ^ (k + 1) ∧ (k = 0 ∨ (2 : Int) ^ k < p0.toInt)
set_option maxRecDepth 65536 in
set_option maxHeartbeats 40000000 in
theorem rm1 (l : Launch) (Z : State) (a0 : Array Value) (hw : ∀ d ∈ tables_1, d.before a0 Z = true) (ws : List Jvm.Cond) (p0 : Int32) (h0 : Heap) (n0 : Nat) (Z0 : n0 ≤ h0.size) (hp : 0 ≤ p0.toInt) :
    MetFree l (⟨"com/example/lotwise/lotwise/Halving", "held", "(I)I"⟩ : MethodName) (head1 (Jvm.Cond.code (⟨"com/example/lotwise/lotwise/Halving", "held", "(I)I"⟩ : MethodName) prog_6_method_2_code 2 (some .int) :: ws) ({ frames := 1, cells := 0, slots := 0, locals := 14 } : Room)) (fun a U => a = #[(.int p0)] ∧ Z.Warmed39 U.vm ∧ U.heap = h0) (fun _ _ _ _ _ => True) (fun _ U o U' => ∃ v L, o = .returned v ∧ Q1 Z p0 h0 n0 v U'.heap L ∧ FrameEnd U o U' L ({ frames := 1, cells := 0, slots := 0, locals := 14 } : Room).cells ({ frames := 1, cells := 0, slots := 0, locals := 14 } : Room).slots) := by
  refine MetFree.of_bodySF (plainFor_of_name pn_1) hisR ?_
  intro p e s m args below meth c s₁ Bd hml0 hP hK
  obtain ⟨rfl, hZ, hh⟩ := hP
  have hx := Bd.exec
  have hby := Bd.bytes
  have hml : c.maxLocals = 2 := hml0
  have hown : s.vm.findClass "com/example/lotwise/lotwise/Halving" = some m.cls := findClass_of_methodNamed Bd.named
  have hnm := (name_of_methodNamed Bd.named Bd.method).1
  have X0 : Stand p l e ({ frames := 1, cells := 0, slots := 0, locals := 14 } : Room) s m #[(.int p0)] below meth c s₁ [] 0 0 := Stand.of_body Bd
  have e0 : s₁.heap = h0 := by rw [← hh, Bd.state]; rfl
  have N0 := Fr.nil n0
  have pre0 : ∀ t, Steps p.tables e below (s₁.setTop (mkF m 0 #[.val (.int p0), .unset] [])) t → Steps p.tables e below (s₁.setTop (entryFrame m #[(.int p0)] 2)) t := fun t k => castTop (ef_1 m p0) k
  show Done p e below _ _
  refine Done.of ?_ pre0
  have r0 := rng32 p0
  have m0 := c_isub p0 (1 : Int32)
  have r1 := rng32 (p0 - (1 : Int32))
  rw [show (1 : Int32).toInt = 1 from by decide] at m0
  have hmx : ((own_max (p0 - (1 : Int32)) (1 : Int32)).toInt = p0.toInt - 1 ∧ 1 ≤ p0.toInt - 1) ∨ ((own_max (p0 - (1 : Int32)) (1 : Int32)).toInt = 1 ∧ p0.toInt ≤ 1) := by
    unfold own_max
    simp only [Int32.lt_iff_toInt_lt, show (1 : Int32).toInt = 1 from by decide]
    split
    · right; exact ⟨by decide, by omega⟩
    · left; omega
  have hu : (0 : Int32) < own_max (p0 - (1 : Int32)) (1 : Int32) := by
    rw [Int32.lt_iff_toInt_lt, own_z0]
    rcases hmx with ⟨m1, m2⟩ | ⟨m1, m2⟩ <;> omega
  obtain ⟨_, _, ⟨T1, L1, k1, n1⟩, -, X1, ⟨Lc1, hQ1, l1, y1, z1⟩, st1⟩ := Jvm.LawKit.callS X0 hx (y := (⟨"java/lang/Math", "max", "(II)I"⟩ : MethodName)) hown (mvT hZ (hw _ (List.mem_of_getElem? (i := 5) rfl))) (mvT hZ (hw _ (List.mem_of_getElem? (i := 6) rfl))) (mvT hZ (hw _ (List.mem_of_getElem? (i := 7) rfl))) (mvT hZ (hw _ (List.mem_of_getElem? (i := 8) rfl))) (by decide) (backOf (W := 1) (rm2 l Z a0 hw [] (p0 - (1 : Int32)) (1 : Int32) h0 n0 Z0 ) hZ (hw _ (List.mem_of_getElem? (i := 8) rfl)) (hw _ (List.mem_of_getElem? (i := 7) rfl)) (by decide) (by decide)) (g := (mkF m 6 #[.val (.int p0), .unset] [(.int (1 : Int32)), (.int (p0 - (1 : Int32))), (.int (32 : Int32))])) rfl (by rw [hml]; rfl) (argsL := [(.int (p0 - (1 : Int32))), (.int (1 : Int32))]) (rest := [(.int (32 : Int32))]) (lenOf pd_0 rfl) rfl (by show 2 * 0 + _ ≤ _; exact Nat.le_of_eq rfl) (hb hby d1_6) (fun _ _ => ⟨rfl, e0, (by decide : 0 + 0 ≤ _), (by decide : 0 + 0 ≤ _)⟩)
  dsimp only [Pt.U, Pt.locs, Pt.cells, Pt.slots] at X1 l1 y1 z1 st1 hQ1
  subst l1 y1 z1
  obtain ⟨rfl, N1q, e1⟩ := hQ1
  have N1 := Fr.app N0 N1q
  obtain ⟨_, _, ⟨T2, L2, k2, n2⟩, -, X2, ⟨Lc2, hQ2, l2, y2, z2⟩, st2⟩ := Jvm.LawKit.callS X1 hx (y := (⟨"java/lang/Integer", "numberOfLeadingZeros", "(I)I"⟩ : MethodName)) hown (mvT hZ (hw _ (List.mem_of_getElem? (i := 9) rfl))) (mvT hZ (hw _ (List.mem_of_getElem? (i := 10) rfl))) (mvT hZ (hw _ (List.mem_of_getElem? (i := 11) rfl))) (mvT hZ (hw _ (List.mem_of_getElem? (i := 12) rfl))) (by decide) (backOf (W := 1) (rm3 l Z a0 hw [] (own_max (p0 - (1 : Int32)) (1 : Int32)) h0 n0 Z0 hu) hZ (hw _ (List.mem_of_getElem? (i := 12) rfl)) (hw _ (List.mem_of_getElem? (i := 11) rfl)) (by decide) (by decide)) (g := (mkF m 9 #[.val (.int p0), .unset] [(.int (own_max (p0 - (1 : Int32)) (1 : Int32))), (.int (32 : Int32))])) rfl (by rw [hml]; rfl) (argsL := [(.int (own_max (p0 - (1 : Int32)) (1 : Int32)))]) (rest := [(.int (32 : Int32))]) (lenOf pd_1 rfl) rfl (by show 2 * 0 + _ ≤ _; exact Nat.le_of_eq rfl) (hb hby d1_9) (fun _ _ => ⟨rfl, e1, (by decide : 0 + 0 ≤ _), (by decide : 0 + 0 ≤ _)⟩)
  dsimp only [Pt.U, Pt.locs, Pt.cells, Pt.slots] at X2 l2 y2 z2 st2 hQ2
  subst l2 y2 z2
  obtain ⟨z2, k2, rfl, N2q, e2, a2, b2, c2, d2⟩ := hQ2
  have N2 := Fr.app N1 N2q
  obtain ⟨fs, hr, hrun, hended, hW, hsame⟩ := X2.leave (v := some (.int (((32 : Int32) - z2) + (2 : Int32)))) (fun h => by rw [Bd.returns] at h; cases h)
  refine ⟨_, _, ?_, hrun, hended, _, _, rfl, ?_, ⟨_, rfl⟩, hW, hsame.mono (by decide) (by decide)⟩
  · show Steps p.tables e below (s₁.setTop (mkF m 0 #[.val (.int p0), .unset] [])) _
    refine XS.bipush X0.here hx rfl (hb hby d1_0) ?_
    show Steps p.tables e below (s₁.setTop (mkF m 2 #[.val (.int p0), .unset] [(.int (32 : Int32))])) _
    refine XS.iloadN X0.here hx rfl (hb hby d1_2) rfl ?_
    show Steps p.tables e below (s₁.setTop (mkF m 3 #[.val (.int p0), .unset] [(.int p0), (.int (32 : Int32))])) _
    refine XS.iconst X0.here hx rfl (hb hby d1_3) ?_
    show Steps p.tables e below (s₁.setTop (mkF m 4 #[.val (.int p0), .unset] [(.int (1 : Int32)), (.int p0), (.int (32 : Int32))])) _
    refine XS.isub X0.here hx rfl (hb hby d1_4) rfl ?_
    show Steps p.tables e below (s₁.setTop (mkF m 5 #[.val (.int p0), .unset] [(.int (p0 - (1 : Int32))), (.int (32 : Int32))])) _
    refine XS.iconst X0.here hx rfl (hb hby d1_5) ?_
    show Steps p.tables e below (s₁.setTop (mkF m 6 #[.val (.int p0), .unset] [(.int (1 : Int32)), (.int (p0 - (1 : Int32))), (.int (32 : Int32))])) _
    refine st1 _ ?_
    show Steps p.tables e below (T1.setTop (mkF m 9 #[.val (.int p0), .unset] [(.int (own_max (p0 - (1 : Int32)) (1 : Int32))), (.int (32 : Int32))])) _
    refine st2 _ ?_
    show Steps p.tables e below (T2.setTop (mkF m 12 #[.val (.int p0), .unset] [(.int z2), (.int (32 : Int32))])) _
    refine XS.isub X2.here hx rfl (hb hby d1_12) rfl ?_
    show Steps p.tables e below (T2.setTop (mkF m 13 #[.val (.int p0), .unset] [(.int ((32 : Int32) - z2))])) _
    refine XS.istoreN X2.here hx rfl (hb hby d1_13) rfl (l' := #[.val (.int p0), .val (.int ((32 : Int32) - z2))]) rfl ?_
    show Steps p.tables e below (T2.setTop (mkF m 14 #[.val (.int p0), .val (.int ((32 : Int32) - z2))] [])) _
    refine XS.iloadN X2.here hx rfl (hb hby d1_14) rfl ?_
    show Steps p.tables e below (T2.setTop (mkF m 15 #[.val (.int p0), .val (.int ((32 : Int32) - z2))] [(.int ((32 : Int32) - z2))])) _
    refine XS.iconst X2.here hx rfl (hb hby d1_15) ?_
    show Steps p.tables e below (T2.setTop (mkF m 16 #[.val (.int p0), .val (.int ((32 : Int32) - z2))] [(.int (2 : Int32)), (.int ((32 : Int32) - z2))])) _
    refine XS.iadd X2.here hx rfl (hb hby d1_16) rfl ?_
    show Steps p.tables e below (T2.setTop (mkF m 17 #[.val (.int p0), .val (.int ((32 : Int32) - z2))] [(.int (((32 : Int32) - z2) + (2 : Int32)))])) _
    exact retI X2 hx Bd.returns (hb hby d1_17) hr
  · show Q1 Z p0  h0 n0 _ T2.heap _
    rw [e2]
    have s1 := c_isub (32 : Int32) z2
    have s2 := rng32 ((32 : Int32) - z2)
    rw [show (32 : Int32).toInt = 32 from by decide] at s1
    refine ⟨((32 : Int32) - z2), k2, rfl, N2, rfl, by omega, b2, ?_, ?_⟩
    · rcases hmx with ⟨m1, m2⟩ | ⟨m1, m2⟩ <;> omega
    · rcases hmx with ⟨m1, m2⟩ | ⟨m1, m2⟩
      · right; omega
      · left
        rcases Nat.eq_zero_or_pos k2 with q | q
        · exact q
        · have q2 : (2 : Int) ^ 1 ≤ (2 : Int) ^ k2 := own_pw q
          omega

theorem own_nat {q : Int32} {k : Nat} (h : q.toInt = (k : Int)) (hk : k < 64) : q.toBitVec.toNat % 64 = k := by
  have l := q.toBitVec.isLt
  change q.toBitVec.toInt = _ at h
  rw [BitVec.toInt_eq_toNat_cond] at h
  split at h <;> omega
theorem own_one {q : Int32} {k : Nat} (h : q.toInt = (k : Int)) (hk : k ≤ 32) : ((1 : Int64) <<< (q &&& 0x3f).toInt64).toInt = (2 : Int) ^ k := by
  have h1 := c_lshl (1 : Int64) q k (own_nat h (by omega))
  have h2 := rng64 ((1 : Int64) <<< (q &&& 0x3f).toInt64)
  have h3 : (2 : Int) ^ k ≤ (2 : Int) ^ 32 := own_pw hk
  have h4 : (0 : Int) < (2 : Int) ^ k := Int.pow_pos (by decide)
  rw [show (1 : Int64).toInt = 1 from by decide, Int.one_mul, Int.natCast_pow] at h1
  rw [show ((2 : Nat) : Int) = 2 from rfl] at h1
  generalize (2 : Int) ^ k = P at *
  omega
theorem own_cnt (x s : Int32) : 0 ≤ (((x &&& (2147483647 : Int32)).toUInt32 >>> ((s &&& (31 : Int32)) &&& 31).toUInt32).toInt32).toInt := by
  have h1 := c_mask x (2147483647 : Int32) 31 (by decide) (by decide)
  have h0 : (0 : Int32) ≤ (x &&& (2147483647 : Int32)) := by
    rw [Int32.le_iff_toInt_le, own_z0, h1]
    omega
  have h2 := c_and ((s &&& (31 : Int32))) 31 (by decide)
  rw [show (31 : Int32).toInt = 31 from by decide] at h2
  have h3 : (((s &&& (31 : Int32)) &&& 31).toUInt32).toNat < 32 := by
    generalize (s &&& (31 : Int32)) &&& 31 = q at *
    have l := q.toBitVec.isLt
    change 0 ≤ q.toBitVec.toInt ∧ q.toBitVec.toInt ≤ 31 at h2
    rw [BitVec.toInt_eq_toNat_cond] at h2
    show q.toBitVec.toNat < 32
    split at h2 <;> omega
  rw [Jvm.Kit.i32_iushr h0 rfl h3]
  rw [Int32.le_iff_toInt_le, own_z0] at h0
  exact Int.ediv_nonneg h0 (Int.le_of_lt (Int.pow_pos (by decide)))
theorem pn_0 : plainName "com/example/lotwise/lotwise/HalvingHeldPinLaw" = true := by first | (simp [plainName, overriddenIn]; done) | decide +kernel
theorem ef_0 (m : MethodId) (p0 : Int32) (p1 : Int32)  : entryFrame m #[(.int p0), (.int p1)] maxLocals = mkF m 0 #[.val (.int p0), .val (.int p1), .unset, .unset, .unset, .unset, .unset, .unset] [] := by first | (simp [entryFrame, mkF, argsToLocals, Value.category, maxLocals]; done) | rfl
def Q0 (Z : State) (p0 : Int32) (p1 : Int32) (h0 : Heap) (n0 : Nat) (v : Option Value) (h : Heap) (L : List Loc) : Prop := v = some (.int 1) ∧ Fr n0 L
set_option maxRecDepth 65536 in
set_option maxHeartbeats 40000000 in
theorem rm0 (l : Launch) (Z : State) (a0 : Array Value) (hw : ∀ d ∈ tables_1, d.before a0 Z = true) (ws : List Jvm.Cond) (p0 : Int32) (p1 : Int32) (h0 : Heap) (n0 : Nat) (Z0 : n0 ≤ h0.size) :
    MetFree l x (head1 (Jvm.Cond.code x code maxLocals ret :: ws) room_1) (fun a U => a = #[(.int p0), (.int p1)] ∧ Z.Warmed39 U.vm ∧ U.heap = h0) (fun _ _ _ _ _ => True) (fun _ U o U' => ∃ v L, o = .returned v ∧ Q0 Z p0 p1 h0 n0 v U'.heap L ∧ FrameEnd U o U' L room_1.cells room_1.slots) := by
  refine MetFree.of_bodySF (plainFor_of_name pn_0) hisR ?_
  intro p e s m args below meth c s₁ Bd hml0 hP hK
  obtain ⟨rfl, hZ, hh⟩ := hP
  have hx := Bd.exec
  have hby := Bd.bytes
  have hml : c.maxLocals = 8 := hml0
  have hown : s.vm.findClass "com/example/lotwise/lotwise/HalvingHeldPinLaw" = some m.cls := findClass_of_methodNamed Bd.named
  have hnm := (name_of_methodNamed Bd.named Bd.method).1
  have X0 : Stand p l e room_1 s m #[(.int p0), (.int p1)] below meth c s₁ [] 0 0 := Stand.of_body Bd
  have e0 : s₁.heap = h0 := by rw [← hh, Bd.state]; rfl
  have N0 := Fr.nil n0
  have pre0 : ∀ t, Steps p.tables e below (s₁.setTop (mkF m 0 #[.val (.int p0), .val (.int p1), .unset, .unset, .unset, .unset, .unset, .unset] [])) t → Steps p.tables e below (s₁.setTop (entryFrame m #[(.int p0), (.int p1)] maxLocals)) t := fun t k => castTop (ef_0 m p0 p1) k
  show Done p e below _ _
  refine Done.of ?_ pre0
  obtain ⟨v1, ev1⟩ : ∃ z : Int32, z = (((p0 &&& (2147483647 : Int32)).toUInt32 >>> ((p1 &&& (31 : Int32)) &&& 31).toUInt32).toInt32) := ⟨_, rfl⟩
  obtain ⟨_, _, ⟨T2, L2, k2, n2⟩, -, X2, ⟨Lc2, hQ2, l2, y2, z2⟩, st2⟩ := Jvm.LawKit.callS X0 hx (y := (⟨"com/example/lotwise/lotwise/Halving", "held", "(I)I"⟩ : MethodName)) hown (mvT hZ (hw _ (List.mem_of_getElem? (i := 1) rfl))) (mvT hZ (hw _ (List.mem_of_getElem? (i := 2) rfl))) (mvT hZ (hw _ (List.mem_of_getElem? (i := 3) rfl))) (mvT hZ (hw _ (List.mem_of_getElem? (i := 4) rfl))) (by decide) (backOf (W := 0) (rm1 l Z a0 hw [] v1 h0 n0 Z0 (by rw [ev1]; exact own_cnt p0 p1)) hZ (hw _ (List.mem_of_getElem? (i := 4) rfl)) (hw _ (List.mem_of_getElem? (i := 3) rfl)) (by decide) (by decide)) (g := (mkF m 11 #[.val (.int p0), .val (.int p1), .val (.int v1), .unset, .unset, .unset, .unset, .unset] [(.int v1)])) rfl (by rw [hml]; rfl) (argsL := [(.int v1)]) (rest := []) (lenOf pd_1 rfl) rfl (by show 2 * 0 + _ ≤ _; exact Nat.le_of_eq rfl) (hb hby at_11) (fun _ _ => ⟨rfl, e0, (by decide : 0 + 0 ≤ _), (by decide : 0 + 0 ≤ _)⟩)
  dsimp only [Pt.U, Pt.locs, Pt.cells, Pt.slots] at X2 l2 y2 z2 st2 hQ2
  subst l2 y2 z2
  obtain ⟨d2, k2, rfl, N2q, e2, a2, b2, c2, f2⟩ := hQ2
  have N2 := Fr.app N0 N2q
  obtain ⟨v3, ev3⟩ : ∃ z : Int32, z = ((d2 + (2 : Int32)) - (2 : Int32)) := ⟨_, rfl⟩
  have hd19_4 : ¬ (v3 < (1 : Int32)) := by (rw [Int32.lt_iff_toInt_lt, ev3]; have s1 := c_iadd d2 (2 : Int32); have s2 := c_isub (d2 + (2 : Int32)) (2 : Int32); have s3 := rng32 (d2 + (2 : Int32) - (2 : Int32)); rw [show (2 : Int32).toInt = 2 from by decide] at s1 s2; simp only [show (1 : Int32).toInt = 1 from by decide, show (31 : Int32).toInt = 31 from by decide]; omega)
  have hd25_5 : ¬ ((31 : Int32) < v3) := by (rw [Int32.lt_iff_toInt_lt, ev3]; have s1 := c_iadd d2 (2 : Int32); have s2 := c_isub (d2 + (2 : Int32)) (2 : Int32); have s3 := rng32 (d2 + (2 : Int32) - (2 : Int32)); rw [show (2 : Int32).toInt = 2 from by decide] at s1 s2; simp only [show (1 : Int32).toInt = 1 from by decide, show (31 : Int32).toInt = 31 from by decide]; omega)
  have J40_6 : ∀ wj : Int32, wj = (if ((1 : Int64) <<< (v3 &&& 0x3f).toInt64) < (v1.toInt64) then (0 : Int32) else (1 : Int32)) → ∀ target, Steps p.tables e below (T2.setTop (mkF m 48 #[.val (.int p0), .val (.int p1), .val (.int v1), .val (.int v3), .val (.long (v1.toInt64)), .second, .unset, .unset] [(.int wj)])) target → Steps p.tables e below (T2.setTop (mkF m 40 #[.val (.int p0), .val (.int p1), .val (.int v1), .val (.int v3), .val (.long (v1.toInt64)), .second, .unset, .unset] [(.int (lcmpW ((1 : Int64) <<< (v3 &&& 0x3f).toInt64) (v1.toInt64)))])) target := by
    intro wj hw0 target kt
    by_cases hj40 : ((1 : Int64) <<< (v3 &&& 0x3f).toInt64) < (v1.toInt64)
    · rw [if_pos hj40] at hw0
      show Steps p.tables e below (T2.setTop (mkF m 40 #[.val (.int p0), .val (.int p1), .val (.int v1), .val (.int v3), .val (.long (v1.toInt64)), .second, .unset, .unset] [(.int (lcmpW ((1 : Int64) <<< (v3 &&& 0x3f).toInt64) (v1.toInt64)))])) _
      refine XS.ifYes X2.here hx rfl (pc0 := 40) (pc' := 47) rfl (hb hby at_40) rfl ((if0 _ _).trans (tlt ((lw_lt ((1 : Int64) <<< (v3 &&& 0x3f).toInt64) (v1.toInt64)).mpr hj40)).1) (by decide) (by decide) ?_
      show Steps p.tables e below (T2.setTop (mkF m 47 #[.val (.int p0), .val (.int p1), .val (.int v1), .val (.int v3), .val (.long (v1.toInt64)), .second, .unset, .unset] [])) _
      refine XS.iconst X2.here hx rfl (hb hby at_47) ?_
      rw [hw0] at kt
      exact kt
    · rw [if_neg hj40] at hw0
      show Steps p.tables e below (T2.setTop (mkF m 40 #[.val (.int p0), .val (.int p1), .val (.int v1), .val (.int v3), .val (.long (v1.toInt64)), .second, .unset, .unset] [(.int (lcmpW ((1 : Int64) <<< (v3 &&& 0x3f).toInt64) (v1.toInt64)))])) _
      refine XS.ifNo X2.here hx rfl (hb hby at_40) rfl ((if0 _ _).trans (flt (fun q => hj40 ((lw_lt ((1 : Int64) <<< (v3 &&& 0x3f).toInt64) (v1.toInt64)).mp q))).1) ?_
      show Steps p.tables e below (T2.setTop (mkF m 43 #[.val (.int p0), .val (.int p1), .val (.int v1), .val (.int v3), .val (.long (v1.toInt64)), .second, .unset, .unset] [])) _
      refine XS.iconst X2.here hx rfl (hb hby at_43) ?_
      show Steps p.tables e below (T2.setTop (mkF m 44 #[.val (.int p0), .val (.int p1), .val (.int v1), .val (.int v3), .val (.long (v1.toInt64)), .second, .unset, .unset] [(.int (1 : Int32))])) _
      refine XS.goto X2.here hx rfl (pc0 := 44) (pc' := 48) rfl (hb hby at_44) (by decide) (by decide) ?_
      rw [hw0] at kt
      exact kt
  have J52_7 : ∀ wj : Int32, wj = (if v3 = (1 : Int32) then (1 : Int32) else (if ((1 : Int64) <<< ((v3 - (1 : Int32)) &&& 0x3f).toInt64) < (v1.toInt64) then (1 : Int32) else (0 : Int32))) → ∀ target, Steps p.tables e below (T2.setTop (mkF m 71 #[.val (.int p0), .val (.int p1), .val (.int v1), .val (.int v3), .val (.long (v1.toInt64)), .second, .val (.int (if ((1 : Int64) <<< (v3 &&& 0x3f).toInt64) < (v1.toInt64) then (0 : Int32) else (1 : Int32))), .unset] [(.int wj)])) target → Steps p.tables e below (T2.setTop (mkF m 52 #[.val (.int p0), .val (.int p1), .val (.int v1), .val (.int v3), .val (.long (v1.toInt64)), .second, .val (.int (if ((1 : Int64) <<< (v3 &&& 0x3f).toInt64) < (v1.toInt64) then (0 : Int32) else (1 : Int32))), .unset] [(.int (1 : Int32)), (.int v3)])) target := by
    intro wj hw0 target kt
    by_cases hj52 : v3 = (1 : Int32)
    · rw [if_pos hj52] at hw0
      show Steps p.tables e below (T2.setTop (mkF m 52 #[.val (.int p0), .val (.int p1), .val (.int v1), .val (.int v3), .val (.long (v1.toInt64)), .second, .val (.int (if ((1 : Int64) <<< (v3 &&& 0x3f).toInt64) < (v1.toInt64) then (0 : Int32) else (1 : Int32))), .unset] [(.int (1 : Int32)), (.int v3)])) _
      refine XS.icmpYes X2.here hx rfl (pc0 := 52) (pc' := 66) rfl (hb hby at_52) rfl (teq hj52).1 (by decide) (by decide) ?_
      show Steps p.tables e below (T2.setTop (mkF m 66 #[.val (.int p0), .val (.int p1), .val (.int v1), .val (.int v3), .val (.long (v1.toInt64)), .second, .val (.int (if ((1 : Int64) <<< (v3 &&& 0x3f).toInt64) < (v1.toInt64) then (0 : Int32) else (1 : Int32))), .unset] [])) _
      refine XS.iconst X2.here hx rfl (hb hby at_66) ?_
      show Steps p.tables e below (T2.setTop (mkF m 67 #[.val (.int p0), .val (.int p1), .val (.int v1), .val (.int v3), .val (.long (v1.toInt64)), .second, .val (.int (if ((1 : Int64) <<< (v3 &&& 0x3f).toInt64) < (v1.toInt64) then (0 : Int32) else (1 : Int32))), .unset] [(.int (1 : Int32))])) _
      refine XS.goto X2.here hx rfl (pc0 := 67) (pc' := 71) rfl (hb hby at_67) (by decide) (by decide) ?_
      rw [hw0] at kt
      exact kt
    · rw [if_neg hj52] at hw0
      show Steps p.tables e below (T2.setTop (mkF m 52 #[.val (.int p0), .val (.int p1), .val (.int v1), .val (.int v3), .val (.long (v1.toInt64)), .second, .val (.int (if ((1 : Int64) <<< (v3 &&& 0x3f).toInt64) < (v1.toInt64) then (0 : Int32) else (1 : Int32))), .unset] [(.int (1 : Int32)), (.int v3)])) _
      refine XS.icmpNo X2.here hx rfl (hb hby at_52) rfl (feq hj52).1 ?_
      show Steps p.tables e below (T2.setTop (mkF m 55 #[.val (.int p0), .val (.int p1), .val (.int v1), .val (.int v3), .val (.long (v1.toInt64)), .second, .val (.int (if ((1 : Int64) <<< (v3 &&& 0x3f).toInt64) < (v1.toInt64) then (0 : Int32) else (1 : Int32))), .unset] [])) _
      refine XS.lconst X2.here hx rfl (hb hby at_55) ?_
      show Steps p.tables e below (T2.setTop (mkF m 56 #[.val (.int p0), .val (.int p1), .val (.int v1), .val (.int v3), .val (.long (v1.toInt64)), .second, .val (.int (if ((1 : Int64) <<< (v3 &&& 0x3f).toInt64) < (v1.toInt64) then (0 : Int32) else (1 : Int32))), .unset] [(.long (1 : Int64))])) _
      refine XS.iloadN X2.here hx rfl (hb hby at_56) rfl ?_
      show Steps p.tables e below (T2.setTop (mkF m 57 #[.val (.int p0), .val (.int p1), .val (.int v1), .val (.int v3), .val (.long (v1.toInt64)), .second, .val (.int (if ((1 : Int64) <<< (v3 &&& 0x3f).toInt64) < (v1.toInt64) then (0 : Int32) else (1 : Int32))), .unset] [(.int v3), (.long (1 : Int64))])) _
      refine XS.iconst X2.here hx rfl (hb hby at_57) ?_
      show Steps p.tables e below (T2.setTop (mkF m 58 #[.val (.int p0), .val (.int p1), .val (.int v1), .val (.int v3), .val (.long (v1.toInt64)), .second, .val (.int (if ((1 : Int64) <<< (v3 &&& 0x3f).toInt64) < (v1.toInt64) then (0 : Int32) else (1 : Int32))), .unset] [(.int (1 : Int32)), (.int v3), (.long (1 : Int64))])) _
      refine XS.isub X2.here hx rfl (hb hby at_58) rfl ?_
      show Steps p.tables e below (T2.setTop (mkF m 59 #[.val (.int p0), .val (.int p1), .val (.int v1), .val (.int v3), .val (.long (v1.toInt64)), .second, .val (.int (if ((1 : Int64) <<< (v3 &&& 0x3f).toInt64) < (v1.toInt64) then (0 : Int32) else (1 : Int32))), .unset] [(.int (v3 - (1 : Int32))), (.long (1 : Int64))])) _
      refine XS.lshl X2.here hx rfl (hb hby at_59) rfl ?_
      show Steps p.tables e below (T2.setTop (mkF m 60 #[.val (.int p0), .val (.int p1), .val (.int v1), .val (.int v3), .val (.long (v1.toInt64)), .second, .val (.int (if ((1 : Int64) <<< (v3 &&& 0x3f).toInt64) < (v1.toInt64) then (0 : Int32) else (1 : Int32))), .unset] [(.long ((1 : Int64) <<< ((v3 - (1 : Int32)) &&& 0x3f).toInt64))])) _
      refine XS.lload X2.here hx rfl (hb hby at_60) rfl ?_
      refine XS.lcmp X2.here hx rfl (hb hby at_62) rfl ?_
      by_cases hj63 : ((1 : Int64) <<< ((v3 - (1 : Int32)) &&& 0x3f).toInt64) < (v1.toInt64)
      · rw [if_pos hj63] at hw0
        show Steps p.tables e below (T2.setTop (mkF m 63 #[.val (.int p0), .val (.int p1), .val (.int v1), .val (.int v3), .val (.long (v1.toInt64)), .second, .val (.int (if ((1 : Int64) <<< (v3 &&& 0x3f).toInt64) < (v1.toInt64) then (0 : Int32) else (1 : Int32))), .unset] [(.int (lcmpW ((1 : Int64) <<< ((v3 - (1 : Int32)) &&& 0x3f).toInt64) (v1.toInt64)))])) _
        refine XS.ifNo X2.here hx rfl (hb hby at_63) rfl ((if0 _ _).trans (tlt ((lw_lt ((1 : Int64) <<< ((v3 - (1 : Int32)) &&& 0x3f).toInt64) (v1.toInt64)).mpr hj63)).2.1) ?_
        show Steps p.tables e below (T2.setTop (mkF m 66 #[.val (.int p0), .val (.int p1), .val (.int v1), .val (.int v3), .val (.long (v1.toInt64)), .second, .val (.int (if ((1 : Int64) <<< (v3 &&& 0x3f).toInt64) < (v1.toInt64) then (0 : Int32) else (1 : Int32))), .unset] [])) _
        refine XS.iconst X2.here hx rfl (hb hby at_66) ?_
        show Steps p.tables e below (T2.setTop (mkF m 67 #[.val (.int p0), .val (.int p1), .val (.int v1), .val (.int v3), .val (.long (v1.toInt64)), .second, .val (.int (if ((1 : Int64) <<< (v3 &&& 0x3f).toInt64) < (v1.toInt64) then (0 : Int32) else (1 : Int32))), .unset] [(.int (1 : Int32))])) _
        refine XS.goto X2.here hx rfl (pc0 := 67) (pc' := 71) rfl (hb hby at_67) (by decide) (by decide) ?_
        rw [hw0] at kt
        exact kt
      · rw [if_neg hj63] at hw0
        show Steps p.tables e below (T2.setTop (mkF m 63 #[.val (.int p0), .val (.int p1), .val (.int v1), .val (.int v3), .val (.long (v1.toInt64)), .second, .val (.int (if ((1 : Int64) <<< (v3 &&& 0x3f).toInt64) < (v1.toInt64) then (0 : Int32) else (1 : Int32))), .unset] [(.int (lcmpW ((1 : Int64) <<< ((v3 - (1 : Int32)) &&& 0x3f).toInt64) (v1.toInt64)))])) _
        refine XS.ifYes X2.here hx rfl (pc0 := 63) (pc' := 70) rfl (hb hby at_63) rfl ((if0 _ _).trans (flt (fun q => hj63 ((lw_lt ((1 : Int64) <<< ((v3 - (1 : Int32)) &&& 0x3f).toInt64) (v1.toInt64)).mp q))).2.1) (by decide) (by decide) ?_
        show Steps p.tables e below (T2.setTop (mkF m 70 #[.val (.int p0), .val (.int p1), .val (.int v1), .val (.int v3), .val (.long (v1.toInt64)), .second, .val (.int (if ((1 : Int64) <<< (v3 &&& 0x3f).toInt64) < (v1.toInt64) then (0 : Int32) else (1 : Int32))), .unset] [])) _
        refine XS.iconst X2.here hx rfl (hb hby at_70) ?_
        rw [hw0] at kt
        exact kt
  have J75_8 : ∀ wj : Int32, wj = (if (if ((1 : Int64) <<< (v3 &&& 0x3f).toInt64) < (v1.toInt64) then (0 : Int32) else (1 : Int32)) = (0 : Int32) then (0 : Int32) else (if (if v3 = (1 : Int32) then (1 : Int32) else (if ((1 : Int64) <<< ((v3 - (1 : Int32)) &&& 0x3f).toInt64) < (v1.toInt64) then (1 : Int32) else (0 : Int32))) = (0 : Int32) then (0 : Int32) else (1 : Int32))) → ∀ target, Steps p.tables e below (T2.setTop (mkF m 88 #[.val (.int p0), .val (.int p1), .val (.int v1), .val (.int v3), .val (.long (v1.toInt64)), .second, .val (.int (if ((1 : Int64) <<< (v3 &&& 0x3f).toInt64) < (v1.toInt64) then (0 : Int32) else (1 : Int32))), .val (.int (if v3 = (1 : Int32) then (1 : Int32) else (if ((1 : Int64) <<< ((v3 - (1 : Int32)) &&& 0x3f).toInt64) < (v1.toInt64) then (1 : Int32) else (0 : Int32))))] [(.int wj)])) target → Steps p.tables e below (T2.setTop (mkF m 75 #[.val (.int p0), .val (.int p1), .val (.int v1), .val (.int v3), .val (.long (v1.toInt64)), .second, .val (.int (if ((1 : Int64) <<< (v3 &&& 0x3f).toInt64) < (v1.toInt64) then (0 : Int32) else (1 : Int32))), .val (.int (if v3 = (1 : Int32) then (1 : Int32) else (if ((1 : Int64) <<< ((v3 - (1 : Int32)) &&& 0x3f).toInt64) < (v1.toInt64) then (1 : Int32) else (0 : Int32))))] [(.int (if ((1 : Int64) <<< (v3 &&& 0x3f).toInt64) < (v1.toInt64) then (0 : Int32) else (1 : Int32)))])) target := by
    intro wj hw0 target kt
    by_cases hj75 : (if ((1 : Int64) <<< (v3 &&& 0x3f).toInt64) < (v1.toInt64) then (0 : Int32) else (1 : Int32)) = (0 : Int32)
    · rw [if_pos hj75] at hw0
      show Steps p.tables e below (T2.setTop (mkF m 75 #[.val (.int p0), .val (.int p1), .val (.int v1), .val (.int v3), .val (.long (v1.toInt64)), .second, .val (.int (if ((1 : Int64) <<< (v3 &&& 0x3f).toInt64) < (v1.toInt64) then (0 : Int32) else (1 : Int32))), .val (.int (if v3 = (1 : Int32) then (1 : Int32) else (if ((1 : Int64) <<< ((v3 - (1 : Int32)) &&& 0x3f).toInt64) < (v1.toInt64) then (1 : Int32) else (0 : Int32))))] [(.int (if ((1 : Int64) <<< (v3 &&& 0x3f).toInt64) < (v1.toInt64) then (0 : Int32) else (1 : Int32)))])) _
      refine XS.ifYes X2.here hx rfl (pc0 := 75) (pc' := 87) rfl (hb hby at_75) rfl ((if0 _ _).trans (teq hj75).1) (by decide) (by decide) ?_
      refine XS.iconst X2.here hx rfl (hb hby at_87) ?_
      rw [hw0] at kt
      exact kt
    · rw [if_neg hj75] at hw0
      show Steps p.tables e below (T2.setTop (mkF m 75 #[.val (.int p0), .val (.int p1), .val (.int v1), .val (.int v3), .val (.long (v1.toInt64)), .second, .val (.int (if ((1 : Int64) <<< (v3 &&& 0x3f).toInt64) < (v1.toInt64) then (0 : Int32) else (1 : Int32))), .val (.int (if v3 = (1 : Int32) then (1 : Int32) else (if ((1 : Int64) <<< ((v3 - (1 : Int32)) &&& 0x3f).toInt64) < (v1.toInt64) then (1 : Int32) else (0 : Int32))))] [(.int (if ((1 : Int64) <<< (v3 &&& 0x3f).toInt64) < (v1.toInt64) then (0 : Int32) else (1 : Int32)))])) _
      refine XS.ifNo X2.here hx rfl (hb hby at_75) rfl ((if0 _ _).trans (feq hj75).1) ?_
      show Steps p.tables e below (T2.setTop (mkF m 78 #[.val (.int p0), .val (.int p1), .val (.int v1), .val (.int v3), .val (.long (v1.toInt64)), .second, .val (.int (if ((1 : Int64) <<< (v3 &&& 0x3f).toInt64) < (v1.toInt64) then (0 : Int32) else (1 : Int32))), .val (.int (if v3 = (1 : Int32) then (1 : Int32) else (if ((1 : Int64) <<< ((v3 - (1 : Int32)) &&& 0x3f).toInt64) < (v1.toInt64) then (1 : Int32) else (0 : Int32))))] [])) _
      refine XS.iload X2.here hx rfl (hb hby at_78) rfl ?_
      by_cases hj80 : (if v3 = (1 : Int32) then (1 : Int32) else (if ((1 : Int64) <<< ((v3 - (1 : Int32)) &&& 0x3f).toInt64) < (v1.toInt64) then (1 : Int32) else (0 : Int32))) = (0 : Int32)
      · rw [if_pos hj80] at hw0
        show Steps p.tables e below (T2.setTop (mkF m 80 #[.val (.int p0), .val (.int p1), .val (.int v1), .val (.int v3), .val (.long (v1.toInt64)), .second, .val (.int (if ((1 : Int64) <<< (v3 &&& 0x3f).toInt64) < (v1.toInt64) then (0 : Int32) else (1 : Int32))), .val (.int (if v3 = (1 : Int32) then (1 : Int32) else (if ((1 : Int64) <<< ((v3 - (1 : Int32)) &&& 0x3f).toInt64) < (v1.toInt64) then (1 : Int32) else (0 : Int32))))] [(.int (if v3 = (1 : Int32) then (1 : Int32) else (if ((1 : Int64) <<< ((v3 - (1 : Int32)) &&& 0x3f).toInt64) < (v1.toInt64) then (1 : Int32) else (0 : Int32))))])) _
        refine XS.ifYes X2.here hx rfl (pc0 := 80) (pc' := 87) rfl (hb hby at_80) rfl ((if0 _ _).trans (teq hj80).1) (by decide) (by decide) ?_
        refine XS.iconst X2.here hx rfl (hb hby at_87) ?_
        rw [hw0] at kt
        exact kt
      · rw [if_neg hj80] at hw0
        show Steps p.tables e below (T2.setTop (mkF m 80 #[.val (.int p0), .val (.int p1), .val (.int v1), .val (.int v3), .val (.long (v1.toInt64)), .second, .val (.int (if ((1 : Int64) <<< (v3 &&& 0x3f).toInt64) < (v1.toInt64) then (0 : Int32) else (1 : Int32))), .val (.int (if v3 = (1 : Int32) then (1 : Int32) else (if ((1 : Int64) <<< ((v3 - (1 : Int32)) &&& 0x3f).toInt64) < (v1.toInt64) then (1 : Int32) else (0 : Int32))))] [(.int (if v3 = (1 : Int32) then (1 : Int32) else (if ((1 : Int64) <<< ((v3 - (1 : Int32)) &&& 0x3f).toInt64) < (v1.toInt64) then (1 : Int32) else (0 : Int32))))])) _
        refine XS.ifNo X2.here hx rfl (hb hby at_80) rfl ((if0 _ _).trans (feq hj80).1) ?_
        refine XS.iconst X2.here hx rfl (hb hby at_83) ?_
        show Steps p.tables e below (T2.setTop (mkF m 84 #[.val (.int p0), .val (.int p1), .val (.int v1), .val (.int v3), .val (.long (v1.toInt64)), .second, .val (.int (if ((1 : Int64) <<< (v3 &&& 0x3f).toInt64) < (v1.toInt64) then (0 : Int32) else (1 : Int32))), .val (.int (if v3 = (1 : Int32) then (1 : Int32) else (if ((1 : Int64) <<< ((v3 - (1 : Int32)) &&& 0x3f).toInt64) < (v1.toInt64) then (1 : Int32) else (0 : Int32))))] [(.int (1 : Int32))])) _
        refine XS.goto X2.here hx rfl (pc0 := 84) (pc' := 88) rfl (hb hby at_84) (by decide) (by decide) ?_
        rw [hw0] at kt
        exact kt
  obtain ⟨fs, hr, hrun, hended, hW, hsame⟩ := X2.leave (v := some (.int (nar .boolean (if (if ((1 : Int64) <<< (v3 &&& 0x3f).toInt64) < (v1.toInt64) then (0 : Int32) else (1 : Int32)) = (0 : Int32) then (0 : Int32) else (if (if v3 = (1 : Int32) then (1 : Int32) else (if ((1 : Int64) <<< ((v3 - (1 : Int32)) &&& 0x3f).toInt64) < (v1.toInt64) then (1 : Int32) else (0 : Int32))) = (0 : Int32) then (0 : Int32) else (1 : Int32)))))) (fun h => by rw [Bd.returns] at h; cases h)
  refine ⟨_, _, ?_, hrun, hended, _, _, rfl, ?_, ⟨_, rfl⟩, hW, hsame.mono (by decide) (by decide)⟩
  · show Steps p.tables e below (s₁.setTop (mkF m 0 #[.val (.int p0), .val (.int p1), .unset, .unset, .unset, .unset, .unset, .unset] [])) _
    refine XS.iloadN X0.here hx rfl (hb hby at_0) rfl ?_
    show Steps p.tables e below (s₁.setTop (mkF m 1 #[.val (.int p0), .val (.int p1), .unset, .unset, .unset, .unset, .unset, .unset] [(.int p0)])) _
    refine X0.ldcInt hx hown (mvT hZ (hw _ (List.mem_of_getElem? (i := 0) rfl))) (g := (mkF m 1 #[.val (.int p0), .val (.int p1), .unset, .unset, .unset, .unset, .unset, .unset] [(.int p0)])) rfl (hb hby at_1) _ ?_
    show Steps p.tables e below (s₁.setTop (mkF m 3 #[.val (.int p0), .val (.int p1), .unset, .unset, .unset, .unset, .unset, .unset] [(.int (2147483647 : Int32)), (.int p0)])) _
    refine XS.iand X0.here hx rfl (hb hby at_3) rfl ?_
    show Steps p.tables e below (s₁.setTop (mkF m 4 #[.val (.int p0), .val (.int p1), .unset, .unset, .unset, .unset, .unset, .unset] [(.int (p0 &&& (2147483647 : Int32)))])) _
    refine XS.iloadN X0.here hx rfl (hb hby at_4) rfl ?_
    show Steps p.tables e below (s₁.setTop (mkF m 5 #[.val (.int p0), .val (.int p1), .unset, .unset, .unset, .unset, .unset, .unset] [(.int p1), (.int (p0 &&& (2147483647 : Int32)))])) _
    refine XS.bipush X0.here hx rfl (hb hby at_5) ?_
    show Steps p.tables e below (s₁.setTop (mkF m 7 #[.val (.int p0), .val (.int p1), .unset, .unset, .unset, .unset, .unset, .unset] [(.int (31 : Int32)), (.int p1), (.int (p0 &&& (2147483647 : Int32)))])) _
    refine XS.iand X0.here hx rfl (hb hby at_7) rfl ?_
    show Steps p.tables e below (s₁.setTop (mkF m 8 #[.val (.int p0), .val (.int p1), .unset, .unset, .unset, .unset, .unset, .unset] [(.int (p1 &&& (31 : Int32))), (.int (p0 &&& (2147483647 : Int32)))])) _
    refine XS.iushr X0.here hx rfl (hb hby at_8) rfl ?_
    show Steps p.tables e below (s₁.setTop (mkF m 9 #[.val (.int p0), .val (.int p1), .unset, .unset, .unset, .unset, .unset, .unset] [(.int (((p0 &&& (2147483647 : Int32)).toUInt32 >>> ((p1 &&& (31 : Int32)) &&& 31).toUInt32).toInt32))])) _
    rw [← ev1]
    show Steps p.tables e below (s₁.setTop (mkF m 9 #[.val (.int p0), .val (.int p1), .unset, .unset, .unset, .unset, .unset, .unset] [(.int v1)])) _
    refine XS.istoreN X0.here hx rfl (hb hby at_9) rfl (l' := #[.val (.int p0), .val (.int p1), .val (.int v1), .unset, .unset, .unset, .unset, .unset]) rfl ?_
    show Steps p.tables e below (s₁.setTop (mkF m 10 #[.val (.int p0), .val (.int p1), .val (.int v1), .unset, .unset, .unset, .unset, .unset] [])) _
    refine XS.iloadN X0.here hx rfl (hb hby at_10) rfl ?_
    show Steps p.tables e below (s₁.setTop (mkF m 11 #[.val (.int p0), .val (.int p1), .val (.int v1), .unset, .unset, .unset, .unset, .unset] [(.int v1)])) _
    refine st2 _ ?_
    show Steps p.tables e below (T2.setTop (mkF m 14 #[.val (.int p0), .val (.int p1), .val (.int v1), .unset, .unset, .unset, .unset, .unset] [(.int (d2 + (2 : Int32)))])) _
    refine XS.iconst X2.here hx rfl (hb hby at_14) ?_
    show Steps p.tables e below (T2.setTop (mkF m 15 #[.val (.int p0), .val (.int p1), .val (.int v1), .unset, .unset, .unset, .unset, .unset] [(.int (2 : Int32)), (.int (d2 + (2 : Int32)))])) _
    refine XS.isub X2.here hx rfl (hb hby at_15) rfl ?_
    show Steps p.tables e below (T2.setTop (mkF m 16 #[.val (.int p0), .val (.int p1), .val (.int v1), .unset, .unset, .unset, .unset, .unset] [(.int ((d2 + (2 : Int32)) - (2 : Int32)))])) _
    rw [← ev3]
    show Steps p.tables e below (T2.setTop (mkF m 16 #[.val (.int p0), .val (.int p1), .val (.int v1), .unset, .unset, .unset, .unset, .unset] [(.int v3)])) _
    refine XS.istoreN X2.here hx rfl (hb hby at_16) rfl (l' := #[.val (.int p0), .val (.int p1), .val (.int v1), .val (.int v3), .unset, .unset, .unset, .unset]) rfl ?_
    show Steps p.tables e below (T2.setTop (mkF m 17 #[.val (.int p0), .val (.int p1), .val (.int v1), .val (.int v3), .unset, .unset, .unset, .unset] [])) _
    refine XS.iloadN X2.here hx rfl (hb hby at_17) rfl ?_
    show Steps p.tables e below (T2.setTop (mkF m 18 #[.val (.int p0), .val (.int p1), .val (.int v1), .val (.int v3), .unset, .unset, .unset, .unset] [(.int v3)])) _
    refine XS.iconst X2.here hx rfl (hb hby at_18) ?_
    show Steps p.tables e below (T2.setTop (mkF m 19 #[.val (.int p0), .val (.int p1), .val (.int v1), .val (.int v3), .unset, .unset, .unset, .unset] [(.int (1 : Int32)), (.int v3)])) _
    refine XS.icmpNo X2.here hx rfl (hb hby at_19) rfl (flt hd19_4).1 ?_
    show Steps p.tables e below (T2.setTop (mkF m 22 #[.val (.int p0), .val (.int p1), .val (.int v1), .val (.int v3), .unset, .unset, .unset, .unset] [])) _
    refine XS.iloadN X2.here hx rfl (hb hby at_22) rfl ?_
    show Steps p.tables e below (T2.setTop (mkF m 23 #[.val (.int p0), .val (.int p1), .val (.int v1), .val (.int v3), .unset, .unset, .unset, .unset] [(.int v3)])) _
    refine XS.bipush X2.here hx rfl (hb hby at_23) ?_
    show Steps p.tables e below (T2.setTop (mkF m 25 #[.val (.int p0), .val (.int p1), .val (.int v1), .val (.int v3), .unset, .unset, .unset, .unset] [(.int (31 : Int32)), (.int v3)])) _
    refine XS.icmpYes X2.here hx rfl (pc0 := 25) (pc' := 30) rfl (hb hby at_25) rfl (flt hd25_5).2.2.2 (by decide) (by decide) ?_
    show Steps p.tables e below (T2.setTop (mkF m 30 #[.val (.int p0), .val (.int p1), .val (.int v1), .val (.int v3), .unset, .unset, .unset, .unset] [])) _
    refine XS.iloadN X2.here hx rfl (hb hby at_30) rfl ?_
    show Steps p.tables e below (T2.setTop (mkF m 31 #[.val (.int p0), .val (.int p1), .val (.int v1), .val (.int v3), .unset, .unset, .unset, .unset] [(.int v1)])) _
    refine XS.i2l X2.here hx rfl (hb hby at_31) rfl ?_
    show Steps p.tables e below (T2.setTop (mkF m 32 #[.val (.int p0), .val (.int p1), .val (.int v1), .val (.int v3), .unset, .unset, .unset, .unset] [(.long (v1.toInt64))])) _
    refine XS.lstore X2.here hx rfl (hb hby at_32) rfl (l' := #[.val (.int p0), .val (.int p1), .val (.int v1), .val (.int v3), .val (.long (v1.toInt64)), .second, .unset, .unset]) rfl ?_
    show Steps p.tables e below (T2.setTop (mkF m 34 #[.val (.int p0), .val (.int p1), .val (.int v1), .val (.int v3), .val (.long (v1.toInt64)), .second, .unset, .unset] [])) _
    refine XS.lconst X2.here hx rfl (hb hby at_34) ?_
    show Steps p.tables e below (T2.setTop (mkF m 35 #[.val (.int p0), .val (.int p1), .val (.int v1), .val (.int v3), .val (.long (v1.toInt64)), .second, .unset, .unset] [(.long (1 : Int64))])) _
    refine XS.iloadN X2.here hx rfl (hb hby at_35) rfl ?_
    show Steps p.tables e below (T2.setTop (mkF m 36 #[.val (.int p0), .val (.int p1), .val (.int v1), .val (.int v3), .val (.long (v1.toInt64)), .second, .unset, .unset] [(.int v3), (.long (1 : Int64))])) _
    refine XS.lshl X2.here hx rfl (hb hby at_36) rfl ?_
    show Steps p.tables e below (T2.setTop (mkF m 37 #[.val (.int p0), .val (.int p1), .val (.int v1), .val (.int v3), .val (.long (v1.toInt64)), .second, .unset, .unset] [(.long ((1 : Int64) <<< (v3 &&& 0x3f).toInt64))])) _
    refine XS.lload X2.here hx rfl (hb hby at_37) rfl ?_
    show Steps p.tables e below (T2.setTop (mkF m 39 #[.val (.int p0), .val (.int p1), .val (.int v1), .val (.int v3), .val (.long (v1.toInt64)), .second, .unset, .unset] [(.long (v1.toInt64)), (.long ((1 : Int64) <<< (v3 &&& 0x3f).toInt64))])) _
    refine XS.lcmp X2.here hx rfl (hb hby at_39) rfl ?_
    show Steps p.tables e below (T2.setTop (mkF m 40 #[.val (.int p0), .val (.int p1), .val (.int v1), .val (.int v3), .val (.long (v1.toInt64)), .second, .unset, .unset] [(.int (lcmpW ((1 : Int64) <<< (v3 &&& 0x3f).toInt64) (v1.toInt64)))])) _
    refine J40_6 _ rfl _ ?_
    show Steps p.tables e below (T2.setTop (mkF m 48 #[.val (.int p0), .val (.int p1), .val (.int v1), .val (.int v3), .val (.long (v1.toInt64)), .second, .unset, .unset] [(.int (if ((1 : Int64) <<< (v3 &&& 0x3f).toInt64) < (v1.toInt64) then (0 : Int32) else (1 : Int32)))])) _
    refine XS.istore X2.here hx rfl (hb hby at_48) rfl (l' := #[.val (.int p0), .val (.int p1), .val (.int v1), .val (.int v3), .val (.long (v1.toInt64)), .second, .val (.int (if ((1 : Int64) <<< (v3 &&& 0x3f).toInt64) < (v1.toInt64) then (0 : Int32) else (1 : Int32))), .unset]) rfl ?_
    show Steps p.tables e below (T2.setTop (mkF m 50 #[.val (.int p0), .val (.int p1), .val (.int v1), .val (.int v3), .val (.long (v1.toInt64)), .second, .val (.int (if ((1 : Int64) <<< (v3 &&& 0x3f).toInt64) < (v1.toInt64) then (0 : Int32) else (1 : Int32))), .unset] [])) _
    refine XS.iloadN X2.here hx rfl (hb hby at_50) rfl ?_
    show Steps p.tables e below (T2.setTop (mkF m 51 #[.val (.int p0), .val (.int p1), .val (.int v1), .val (.int v3), .val (.long (v1.toInt64)), .second, .val (.int (if ((1 : Int64) <<< (v3 &&& 0x3f).toInt64) < (v1.toInt64) then (0 : Int32) else (1 : Int32))), .unset] [(.int v3)])) _
    refine XS.iconst X2.here hx rfl (hb hby at_51) ?_
    show Steps p.tables e below (T2.setTop (mkF m 52 #[.val (.int p0), .val (.int p1), .val (.int v1), .val (.int v3), .val (.long (v1.toInt64)), .second, .val (.int (if ((1 : Int64) <<< (v3 &&& 0x3f).toInt64) < (v1.toInt64) then (0 : Int32) else (1 : Int32))), .unset] [(.int (1 : Int32)), (.int v3)])) _
    refine J52_7 _ rfl _ ?_
    refine XS.istore X2.here hx rfl (hb hby at_71) rfl (l' := #[.val (.int p0), .val (.int p1), .val (.int v1), .val (.int v3), .val (.long (v1.toInt64)), .second, .val (.int (if ((1 : Int64) <<< (v3 &&& 0x3f).toInt64) < (v1.toInt64) then (0 : Int32) else (1 : Int32))), .val (.int (if v3 = (1 : Int32) then (1 : Int32) else (if ((1 : Int64) <<< ((v3 - (1 : Int32)) &&& 0x3f).toInt64) < (v1.toInt64) then (1 : Int32) else (0 : Int32))))]) rfl ?_
    refine XS.iload X2.here hx rfl (hb hby at_73) rfl ?_
    show Steps p.tables e below (T2.setTop (mkF m 75 #[.val (.int p0), .val (.int p1), .val (.int v1), .val (.int v3), .val (.long (v1.toInt64)), .second, .val (.int (if ((1 : Int64) <<< (v3 &&& 0x3f).toInt64) < (v1.toInt64) then (0 : Int32) else (1 : Int32))), .val (.int (if v3 = (1 : Int32) then (1 : Int32) else (if ((1 : Int64) <<< ((v3 - (1 : Int32)) &&& 0x3f).toInt64) < (v1.toInt64) then (1 : Int32) else (0 : Int32))))] [(.int (if ((1 : Int64) <<< (v3 &&& 0x3f).toInt64) < (v1.toInt64) then (0 : Int32) else (1 : Int32)))])) _
    refine J75_8 _ rfl _ ?_
    show Steps p.tables e below (T2.setTop (mkF m 88 #[.val (.int p0), .val (.int p1), .val (.int v1), .val (.int v3), .val (.long (v1.toInt64)), .second, .val (.int (if ((1 : Int64) <<< (v3 &&& 0x3f).toInt64) < (v1.toInt64) then (0 : Int32) else (1 : Int32))), .val (.int (if v3 = (1 : Int32) then (1 : Int32) else (if ((1 : Int64) <<< ((v3 - (1 : Int32)) &&& 0x3f).toInt64) < (v1.toInt64) then (1 : Int32) else (0 : Int32))))] [(.int (if (if ((1 : Int64) <<< (v3 &&& 0x3f).toInt64) < (v1.toInt64) then (0 : Int32) else (1 : Int32)) = (0 : Int32) then (0 : Int32) else (if (if v3 = (1 : Int32) then (1 : Int32) else (if ((1 : Int64) <<< ((v3 - (1 : Int32)) &&& 0x3f).toInt64) < (v1.toInt64) then (1 : Int32) else (0 : Int32))) = (0 : Int32) then (0 : Int32) else (1 : Int32))))])) _
    exact retN X2 hx (t := .boolean) Bd.returns (by simp) (hb hby at_88) hr
  · show Q0 Z p0 p1  h0 n0 _ T2.heap _
    rw [e2]
    refine ⟨?_, N2⟩
    have g1 : v3.toInt = ((k2 + 1 : Nat) : Int) := by
      have s1 := c_iadd d2 (2 : Int32)
      have s2 := c_isub (d2 + (2 : Int32)) (2 : Int32)
      have s3 := rng32 (d2 + (2 : Int32) - (2 : Int32))
      rw [show (2 : Int32).toInt = 2 from by decide] at s1 s2
      rw [ev3]; omega
    have g2 := own_one g1 (by omega)
    have g3 := c_isub v3 (1 : Int32)
    have g4 := rng32 (v3 - (1 : Int32))
    rw [show (1 : Int32).toInt = 1 from by decide] at g3
    have g5 : (v3 - (1 : Int32)).toInt = (k2 : Int) := by omega
    have g6 := own_one g5 (by omega)
    have g7 := c_i2l v1
    have u1 : ¬ ((1 : Int64) <<< (v3 &&& 0x3f).toInt64) < v1.toInt64 := by rw [Int64.lt_iff_toInt_lt, g2, g7]; omega
    have u2 : v3 = (1 : Int32) ∨ ((1 : Int64) <<< ((v3 - (1 : Int32)) &&& 0x3f).toInt64) < v1.toInt64 := by
      rcases f2 with q | q
      · left; rw [← Int32.toInt_inj, g1, q]; decide
      · right; rw [Int64.lt_iff_toInt_lt, g6, g7]; exact q
    rcases u2 with u2 | u2
    · rw [if_neg u1, if_pos u2]; first | rfl | decide
    · rw [if_neg u1]
      by_cases u3 : v3 = (1 : Int32)
      · rw [if_pos u3]; first | rfl | decide
      · rw [if_neg u3, if_pos u2]; first | rfl | decide
set_option maxRecDepth 65536 in
set_option maxHeartbeats 40000000 in
theorem comes_1 {Post : Tables → Env → Array Value → State → Outcome → State → Prop} (hpost : ∀ tb e args s v u, (limb_1_1.after args s (.returned v) u = true ∧ limb_1_2.after args s (.returned v) u = true ∧ True) → FrameEnd s (.returned v) u (Jvm.fieldLocs frame_1_writes args s ++ Jvm.arrayLocs frame_1_arrays args s ++ Jvm.staticLocs frame_1_statics s) 0 0 → Post tb e args s (.returned v) u) :
    ArmFor flags0 classFile x code maxLocals ret World_1 tables_1 room_1 Calls_1 rest_1 Pre_1 Post := by
  intro l hfl _ _ p e ha hc hk s m args below hf hA hF happ hP
  obtain ⟨hcalls, hrest, hpre⟩ := hP
  obtain ⟨-, -, -, hnamed, -, -, -, hat⟩ := (Spec.applies_iff hf).mp happ
  obtain ⟨hg, hn⟩ := and_e (Cond.before_iff.mp (show (Jvm.Cond.and given_1 narrow_1).before args s = true from hpre))
  obtain ⟨g1, g2⟩ := and_e hg
  obtain ⟨g3, g4⟩ := and_e g2
  obtain ⟨w0, w1, rfl⟩ : ∃ w0 w1 : Value, args = #[w0, w1] := by
    have hs : args.size = 2 := by simpa [Cond.value, given_1] using g1
    obtain ⟨L⟩ := args
    match L, hs with
    | [w0, w1], _ => exact ⟨w0, w1, rfl⟩
  have hw := fun d (hd : d ∈ tables_1) => atoms_spec (ws := Jvm.Cond.code x code maxLocals ret :: tables_1) hat d (List.mem_cons_of_mem _ hd)
  have hfit : Fit s := fun {y c} hc i hi => by
    obtain ⟨ha, rfl⟩ := Array.getElem?_eq_some_iff.mp hc
    have q := List.all_eq_true.mp ((Array.all_eq_true_iff_forall_mem.mp hF) _ (Array.getElem_mem ha)) i (List.mem_range.mpr hi)
    simpa [Array.getElem?_eq_getElem hi] using q
  obtain ⟨i0, ei0⟩ := is_v g3
  obtain rfl : w0 = (.int i0) := Option.some.inj ei0
  obtain ⟨i1, ei1⟩ := is_v g4
  obtain rfl : w1 = (.int i1) := Option.some.inj ei1
  obtain ⟨n, o, h1, h2, h3, _, L, rfl, ⟨rfl, N⟩, hq⟩ := rm0 l s _ hw tables_1 i0 i1  s.heap s.heap.size (Nat.le_refl _)  p e ha hc hk s m _ below hf ((Spec.applies_iff_loose hf).mp happ).1 ⟨rfl, State.Warmed39.refl s, rfl⟩ trivial
  refine ⟨n, _, h1, h2, h3, hpost _ _ _ _ _ _ ⟨Cond.after_iff.mpr rfl, Cond.after_iff.mpr (eq_i res_at (Term.int_eval (1)) rfl), trivial⟩ ⟨hq.1, hq.2.1, (hq.2.2.sift fun y hy => Or.inr (N y hy)).mono (by decide) (by decide)⟩⟩
theorem main_1_1 : Claimed_1_1 := comes_1 fun _ _ _ _ _ _ h hF => ⟨h.1, hF⟩
theorem main_1_2 : Claimed_1_2 := comes_1 fun _ _ _ _ _ _ h hF => ⟨h.2.1, hF⟩
end Jvm.Pilot.@@N@@
namespace Jvm.Pilot.@@N@@
open Jvm Jvm.ClassFile Sem Op Lib Jvm.Free Jvm.Stand Jvm.Pilot.@@N@@.Jvm.D
/-! MADE BY PROGRAM (witnessworld.py) out of the Statement's table words and the real class files: 15 classes; the members and pool entries that the words name. The judged class is class 1, her method 1. -/
namespace start1
open Jvm.ClassFile
def u (s : String) : CpInfo := .utf8 (stringToUtf16 s)
/-- a pool by its gaps: so many unusable entries, then the entry; so many at the end -/
def gap : Nat → List CpInfo → List CpInfo
  | 0, r => r
  | n + 1, r => .unusable :: gap n r
def poolList (es : List (Nat × CpInfo)) (last : Nat) : List CpInfo := es.foldr (fun e r => gap e.1 (e.2 :: r)) (gap last [])
def pool (es : List (Nat × CpInfo)) (last : Nat) : Array CpInfo := ⟨poolList es last⟩
def fileOf (pool : Array CpInfo) (this : Nat) (attrs : Array Attribute := #[]) (ms : Array MethodInfo := #[]) (fl : Nat := 33) (sup : Nat := 0) (ifs : Array Nat := #[]) (fds : Array FieldInfo := #[]) : ClassFile where
  minorVersion := 0
  majorVersion := 65
  constantPool := pool
  accessFlags := fl
  thisClass := this
  superClass := sup
  interfaces := ifs
  fields := fds
  methods := ms
  attributes := attrs
def plain (name : String) (sup : Option ClassId) : Class where
  name := name
  kind := .ordinary
  loader := none
  accessFlags := 33
  super := sup
  interfaces := #[]
  cf := none
  fields := #[]
  methods := #[]
  instanceTypes := #[]
  staticTypes := #[]
  resolved := #[]
  callSites := []
  init := .initialized
  statics := none
  mirror := none

def pool0 : Array CpInfo := pool [(5, u "<init>"), (0, u "()V"), (1, .class_ 10), (1, u "java/lang/Object")] 113

def k0m0 : Method := { name := "<init>", desc := "()V", sig := { parameters := [], returnType := none }, accessFlags := 1, code := none }
/-- java/lang/Object -/
def k0 : Class := { plain "java/lang/Object" none with
  accessFlags := 33
  interfaces := #[]
  cf := some (fileOf pool0 8 #[] #[{ accessFlags := 1, nameIndex := 5, descriptorIndex := 6, attributes := #[] }] 33 0 #[] #[])
  fields := #[]
  methods := #[k0m0]
  instanceTypes := #[]
  staticTypes := #[]
  resolved := Array.replicate 124 none
  statics := none }

def pool1 : Array CpInfo := pool [(2, .class_ 4), (1, u "java/lang/Object"), (0, u "<init>"), (0, u "()V"), (0, .integer 2147483647), (0, .methodref 9 10), (0, .class_ 11), (0, .nameAndType 12 13), (0, u "com/example/lotwise/lotwise/Halving"), (0, u "held"), (0, u "(I)I"), (0, .class_ 15), (0, u "com/example/lotwise/lotwise/HalvingHeldPinLaw"), (2, u "law"), (0, u "(II)Z")] 3

def k1m0 : Method := { name := "<init>", desc := "()V", sig := { parameters := [], returnType := none }, accessFlags := 2, code := none }
def k1c1 : Code := { maxStack := 4, maxLocals := 8, code := code, exceptionTable := #[], attributes := #[] }
def k1m1 : Method := { name := "law", desc := "(II)Z", sig := { parameters := [.int, .int], returnType := some .boolean }, accessFlags := 9, code := some k1c1 }
/-- com/example/lotwise/lotwise/HalvingHeldPinLaw -/
def k1 : Class := { plain "com/example/lotwise/lotwise/HalvingHeldPinLaw" (some 0) with
  accessFlags := 49
  interfaces := #[]
  cf := some (fileOf pool1 14 #[] #[{ accessFlags := 2, nameIndex := 5, descriptorIndex := 6, attributes := #[] }, { accessFlags := 9, nameIndex := 18, descriptorIndex := 19, attributes := #[] }] 49 2 #[] #[])
  fields := #[]
  methods := #[k1m0, k1m1]
  instanceTypes := #[]
  staticTypes := #[]
  resolved := Array.replicate 23 none
  statics := none }

def pool2 : Array CpInfo := pool [(2, .class_ 4), (1, u "java/lang/Object"), (0, u "<init>"), (0, u "()V"), (0, .methodref 8 9), (0, .class_ 10), (0, .nameAndType 11 12), (0, u "java/lang/Math"), (0, u "max"), (0, u "(II)I"), (0, .methodref 14 15), (0, .class_ 16), (0, .nameAndType 17 18), (0, u "java/lang/Integer"), (0, u "numberOfLeadingZeros"), (0, u "(I)I"), (4, .class_ 25), (1, u "com/example/lotwise/lotwise/Halving"), (44, .class_ 72), (1, u "com/example/lotwise/lotwise/Halving$Visit"), (7, .class_ 82), (1, u "com/example/lotwise/lotwise/Halving$Beside"), (2, .class_ 87), (1, u "com/example/lotwise/lotwise/Halving$Joins"), (28, u "held"), (19, .class_ 137), (0, u "com/example/lotwise/lotwise/Halving$Piece"), (0, .class_ 139), (0, u "com/example/lotwise/lotwise/Halving$Holdings")] 27

def k2m0 : Method := { name := "<init>", desc := "()V", sig := { parameters := [], returnType := none }, accessFlags := 2, code := none }
def k2c1 : Code := { maxStack := 3, maxLocals := 2, code := prog_6_method_2_code, exceptionTable := #[], attributes := #[] }
def k2m1 : Method := { name := "held", desc := "(I)I", sig := { parameters := [.int], returnType := some .int }, accessFlags := 8, code := some k2c1 }
/-- com/example/lotwise/lotwise/Halving -/
def k2 : Class := { plain "com/example/lotwise/lotwise/Halving" (some 0) with
  accessFlags := 48
  interfaces := #[]
  cf := some (fileOf pool2 23 #[.nestMembers #[70, 80, 85, 136, 138]] #[{ accessFlags := 2, nameIndex := 5, descriptorIndex := 6, attributes := #[] }, { accessFlags := 8, nameIndex := 116, descriptorIndex := 18, attributes := #[] }] 48 2 #[] #[])
  fields := #[]
  methods := #[k2m0, k2m1]
  instanceTypes := #[]
  staticTypes := #[]
  resolved := Array.replicate 167 none
  statics := none }

def pool3 : Array CpInfo := pool [(1, .class_ 2), (0, u "java/lang/Math"), (1, .class_ 6), (1, u "java/lang/Object"), (0, u "<init>"), (0, u "()V"), (89, .class_ 100), (1, u "java/lang/Math$RandomNumberGeneratorHolder"), (71, u "negativeZeroFloatBits"), (0, u "J"), (2, u "negativeZeroDoubleBits"), (21, u "max"), (46, u "$assertionsDisabled"), (0, u "Z"), (88, u "(II)I"), (2, u "twoToTheDoubleScaleDown"), (0, u "D"), (4, u "twoToTheDoubleScaleUp"), (9, u "E"), (3, u "PI"), (2, u "TAU"), (2, u "DEGREES_TO_RADIANS"), (0, u "RADIANS_TO_DEGREES")] 94

def k3m0 : Method := { name := "<init>", desc := "()V", sig := { parameters := [], returnType := none }, accessFlags := 2, code := none }
def k3c1 : Code := { maxStack := 2, maxLocals := 2, code := jdk_29_method_65_code, exceptionTable := #[], attributes := #[] }
def k3m1 : Method := { name := "max", desc := "(II)I", sig := { parameters := [.int, .int], returnType := some .int }, accessFlags := 9, code := some k3c1 }
/-- java/lang/Math -/
def k3 : Class := { plain "java/lang/Math" (some 0) with
  accessFlags := 49
  interfaces := #[]
  cf := some (fileOf pool3 1 #[.nestMembers #[98]] #[{ accessFlags := 2, nameIndex := 7, descriptorIndex := 8, attributes := #[] }, { accessFlags := 9, nameIndex := 198, descriptorIndex := 335, attributes := #[] }] 49 4 #[] #[{ accessFlags := 25, nameIndex := 354, descriptorIndex := 339, attributes := #[] }, { accessFlags := 25, nameIndex := 358, descriptorIndex := 339, attributes := #[] }, { accessFlags := 25, nameIndex := 361, descriptorIndex := 339, attributes := #[] }, { accessFlags := 26, nameIndex := 364, descriptorIndex := 339, attributes := #[] }, { accessFlags := 26, nameIndex := 365, descriptorIndex := 339, attributes := #[] }, { accessFlags := 26, nameIndex := 172, descriptorIndex := 173, attributes := #[] }, { accessFlags := 26, nameIndex := 176, descriptorIndex := 173, attributes := #[] }, { accessFlags := 8, nameIndex := 344, descriptorIndex := 339, attributes := #[] }, { accessFlags := 8, nameIndex := 338, descriptorIndex := 339, attributes := #[] }, { accessFlags := 4120, nameIndex := 245, descriptorIndex := 246, attributes := #[] }])
  fields := #[{ name := "E", type := .double, accessFlags := 25, slot := 0, constantValue := 0 }, { name := "PI", type := .double, accessFlags := 25, slot := 1, constantValue := 0 }, { name := "TAU", type := .double, accessFlags := 25, slot := 2, constantValue := 0 }, { name := "DEGREES_TO_RADIANS", type := .double, accessFlags := 26, slot := 3, constantValue := 0 }, { name := "RADIANS_TO_DEGREES", type := .double, accessFlags := 26, slot := 4, constantValue := 0 }, { name := "negativeZeroFloatBits", type := .long, accessFlags := 26, slot := 5, constantValue := 0 }, { name := "negativeZeroDoubleBits", type := .long, accessFlags := 26, slot := 6, constantValue := 0 }, { name := "twoToTheDoubleScaleUp", type := .double, accessFlags := 8, slot := 7, constantValue := 0 }, { name := "twoToTheDoubleScaleDown", type := .double, accessFlags := 8, slot := 8, constantValue := 0 }, { name := "$assertionsDisabled", type := .boolean, accessFlags := 4120, slot := 9, constantValue := 0 }]
  methods := #[k3m0, k3m1]
  instanceTypes := #[]
  staticTypes := #[.double, .double, .double, .double, .double, .long, .long, .double, .double, .boolean]
  resolved := Array.replicate 460 none
  statics := none }

def pool4 : Array CpInfo := pool [(1, .class_ 2), (0, u "java/io/Serializable"), (0, .class_ 4), (0, u "java/lang/Object")] 2

/-- java/io/Serializable -/
def k4 : Class := { plain "java/io/Serializable" (some 0) with
  accessFlags := 1537
  interfaces := #[]
  cf := some (fileOf pool4 1 #[] #[] 1537 3 #[] #[])
  fields := #[]
  methods := #[]
  instanceTypes := #[]
  staticTypes := #[]
  resolved := Array.replicate 7 none
  statics := none }

def pool5 : Array CpInfo := pool [(2, .class_ 4), (1, u "java/lang/Object"), (0, u "<init>"), (0, u "()V"), (1, .class_ 10), (1, u "java/lang/Number"), (2, .class_ 14), (0, u "java/io/Serializable"), (0, u "serialVersionUID"), (0, u "J")] 20

def k5m0 : Method := { name := "<init>", desc := "()V", sig := { parameters := [], returnType := none }, accessFlags := 1, code := none }
/-- java/lang/Number -/
def k5 : Class := { plain "java/lang/Number" (some 0) with
  accessFlags := 1057
  interfaces := #[4]
  cf := some (fileOf pool5 8 #[] #[{ accessFlags := 1, nameIndex := 5, descriptorIndex := 6, attributes := #[] }] 1057 2 #[13] #[{ accessFlags := 26, nameIndex := 15, descriptorIndex := 16, attributes := #[] }])
  fields := #[{ name := "serialVersionUID", type := .long, accessFlags := 26, slot := 0, constantValue := 0 }]
  methods := #[k5m0]
  instanceTypes := #[]
  staticTypes := #[.long]
  resolved := Array.replicate 37 none
  statics := none }

def pool6 : Array CpInfo := pool [(1, .class_ 2), (0, u "java/lang/Comparable"), (0, .class_ 4), (0, u "java/lang/Object")] 7

/-- java/lang/Comparable -/
def k6 : Class := { plain "java/lang/Comparable" (some 0) with
  accessFlags := 1537
  interfaces := #[]
  cf := some (fileOf pool6 1 #[] #[] 1537 3 #[] #[])
  fields := #[]
  methods := #[]
  instanceTypes := #[]
  staticTypes := #[]
  resolved := Array.replicate 12 none
  statics := none }

def pool7 : Array CpInfo := pool [(1, .class_ 2), (0, u "java/lang/constant/Constable"), (0, .class_ 4), (0, u "java/lang/Object")] 6

/-- java/lang/constant/Constable -/
def k7 : Class := { plain "java/lang/constant/Constable" (some 0) with
  accessFlags := 1537
  interfaces := #[]
  cf := some (fileOf pool7 1 #[] #[] 1537 3 #[] #[])
  fields := #[]
  methods := #[]
  instanceTypes := #[]
  staticTypes := #[]
  resolved := Array.replicate 11 none
  statics := none }

def pool8 : Array CpInfo := pool [(1, .class_ 2), (0, u "java/lang/constant/ConstantDesc"), (0, .class_ 4), (0, u "java/lang/Object")] 32

/-- java/lang/constant/ConstantDesc -/
def k8 : Class := { plain "java/lang/constant/ConstantDesc" (some 0) with
  accessFlags := 1537
  interfaces := #[]
  cf := some (fileOf pool8 1 #[] #[] 1537 3 #[] #[])
  fields := #[]
  methods := #[]
  instanceTypes := #[]
  staticTypes := #[]
  resolved := Array.replicate 37 none
  statics := none }

def pool9 : Array CpInfo := pool [(1, .class_ 2), (0, u "java/lang/Integer"), (16, u "digits"), (0, u "[C"), (32, u "numberOfLeadingZeros"), (0, u "(I)I"), (30, u "DigitOnes"), (0, u "[B"), (2, u "DigitTens"), (99, .class_ 190), (0, u "java/lang/Integer$IntegerCache"), (3, u "I"), (8, .class_ 204), (0, u "java/lang/Number"), (2, u "value"), (56, .integer 65536), (37, u "TYPE"), (0, u "Ljava/lang/Class;"), (0, .class_ 305), (0, u "java/lang/Comparable"), (0, .class_ 307), (0, u "java/lang/constant/Constable"), (0, .class_ 309), (0, u "java/lang/constant/ConstantDesc"), (0, u "MIN_VALUE"), (1, u "MAX_VALUE"), (3, u "SIZE"), (1, u "BYTES"), (1, u "serialVersionUID"), (0, u "J")] 131

def k9c0 : Code := { maxStack := 3, maxLocals := 2, code := jdk_33_method_47_code, exceptionTable := #[], attributes := #[] }
def k9m0 : Method := { name := "numberOfLeadingZeros", desc := "(I)I", sig := { parameters := [.int], returnType := some .int }, accessFlags := 9, code := some k9c0 }
/-- java/lang/Integer -/
def k9 : Class := { plain "java/lang/Integer" (some 5) with
  accessFlags := 49
  interfaces := #[6, 7, 8]
  cf := some (fileOf pool9 1 #[.nestMembers #[189]] #[{ accessFlags := 9, nameIndex := 53, descriptorIndex := 54, attributes := #[] }] 49 203 #[304, 306, 308] #[{ accessFlags := 25, nameIndex := 310, descriptorIndex := 194, attributes := #[] }, { accessFlags := 25, nameIndex := 312, descriptorIndex := 194, attributes := #[] }, { accessFlags := 25, nameIndex := 302, descriptorIndex := 303, attributes := #[] }, { accessFlags := 24, nameIndex := 19, descriptorIndex := 20, attributes := #[] }, { accessFlags := 24, nameIndex := 89, descriptorIndex := 86, attributes := #[] }, { accessFlags := 24, nameIndex := 85, descriptorIndex := 86, attributes := #[] }, { accessFlags := 18, nameIndex := 207, descriptorIndex := 194, attributes := #[] }, { accessFlags := 25, nameIndex := 316, descriptorIndex := 194, attributes := #[] }, { accessFlags := 25, nameIndex := 318, descriptorIndex := 194, attributes := #[] }, { accessFlags := 26, nameIndex := 320, descriptorIndex := 321, attributes := #[] }])
  fields := #[{ name := "MIN_VALUE", type := .int, accessFlags := 25, slot := 0, constantValue := 0 }, { name := "MAX_VALUE", type := .int, accessFlags := 25, slot := 1, constantValue := 0 }, { name := "TYPE", type := (.object "java/lang/Class"), accessFlags := 25, slot := 2, constantValue := 0 }, { name := "digits", type := (.array .char), accessFlags := 24, slot := 3, constantValue := 0 }, { name := "DigitTens", type := (.array .byte), accessFlags := 24, slot := 4, constantValue := 0 }, { name := "DigitOnes", type := (.array .byte), accessFlags := 24, slot := 5, constantValue := 0 }, { name := "value", type := .int, accessFlags := 18, slot := 0, constantValue := 0 }, { name := "SIZE", type := .int, accessFlags := 25, slot := 6, constantValue := 0 }, { name := "BYTES", type := .int, accessFlags := 25, slot := 7, constantValue := 0 }, { name := "serialVersionUID", type := .long, accessFlags := 26, slot := 8, constantValue := 0 }]
  methods := #[k9m0]
  instanceTypes := #[.int]
  staticTypes := #[.int, .int, (.object "java/lang/Class"), (.array .char), (.array .byte), (.array .byte), .int, .int, .long]
  resolved := Array.replicate 453 none
  statics := none }

def pool10 : Array CpInfo := pool [(1, u "java/lang/Cloneable"), (0, .class_ 1), (0, u "java/lang/Object"), (0, .class_ 3)] 3

/-- java/lang/Cloneable -/
def k10 : Class := { plain "java/lang/Cloneable" (some 0) with
  accessFlags := 1537
  interfaces := #[]
  cf := some (fileOf pool10 2 #[] #[] 1537 4 #[] #[])
  fields := #[]
  methods := #[]
  instanceTypes := #[]
  staticTypes := #[]
  resolved := Array.replicate 8 none
  statics := none }

/-- the primitive byte -/
def k11 : Class := { plain "byte" none with kind := .primitive 'B', accessFlags := 0x411 }
/-- [B -/
def k12 : Class := { plain "[B" (some 0) with kind := .array 11 .byte, interfaces := #[10, 4], accessFlags := 1041 }

/-- the primitive int -/
def k13 : Class := { plain "int" none with kind := .primitive 'I', accessFlags := 0x411 }
/-- [I -/
def k14 : Class := { plain "[I" (some 0) with kind := .array 13 .int, interfaces := #[10, 4], accessFlags := 1041 }

def heap : Heap := #[]
def classes : Array Class := #[k0, k1, k2, k3, k4, k5, k6, k7, k8, k9, k10, k11, k12, k13, k14]
def interned : List (Array UInt16 × Addr) := []
def slotsUsed : Nat := 0
def theMethod : MethodId := ⟨1, 1⟩
def args0 : Array Value := #[.int 5, .int 1]
def aboutOver (below : List Frame) : State where
  vm := { classes := classes, interned := interned.toArray }
  heap := heap
  slotsUsed := slotsUsed
  threads := #[{ frames := .invoking theMethod args0 :: below }]
def below0 : List Frame := [.native { method := ⟨0, 0⟩, args := #[] }]
def about1 : State := aboutOver below0
def p0 : Program := .bare "" "" ""
def e0 : Env := launch0.env 0 0 0
theorem w_frames : about1.frames = Frame.invoking theMethod args0 :: below0 := rfl
set_option maxRecDepth 65536 in
theorem w_args : argsFit about1.vm theMethod args0 = true := by decide +kernel
set_option maxRecDepth 65536 in
theorem w_heap : heapFits about1 = true := by decide +kernel
set_option maxRecDepth 65536 in
theorem w_runnable : about1.curStatus? = some .runnable := by decide +kernel
set_option maxRecDepth 65536 in
theorem w_alone : about1.alone = true := by decide +kernel
set_option maxRecDepth 65536 in
theorem w_named : about1.methodNamed? x = some theMethod := by decide +kernel
set_option maxRecDepth 65536 in
theorem w_hears : about1.hears theMethod below0 = true := by decide +kernel
set_option maxRecDepth 65536 in
theorem w_ripe : about1.ripe theMethod args0 below0 = true := by decide +kernel
theorem w_running : about1.status = .running := rfl
set_option maxRecDepth 65536 in
theorem w_room : about1.hasRoom e0.platform room_1 = true :=
  launch0.hasRoom_least _ room_1 (by decide +kernel) (by decide +kernel) (by decide +kernel) (by decide +kernel) (by decide +kernel) (by decide +kernel)
theorem allAtoms_all (ts : List Jvm.Cond) (a : Array Jvm.Value) (st : Jvm.State) : (allAtoms ts).before a st = ts.all (fun c => c.before a st) := by
  induction ts with
  | nil => rfl
  | cons c t ih =>
    show (Jvm.Cond.and c (allAtoms t)).before a st = _
    rw [Jvm.Cond.before_and, ih, List.all_cons]
def words1 : List Jvm.Cond := Jvm.Cond.code x code maxLocals ret :: tables_1
/-- a 'code' word, met by the world's own term for the bytes: nothing is compared byte by byte -/
theorem code_word {y : MethodName} {bytes : ByteArray} {mx : Nat} {rt : Option FieldType} {a : Array Value} {s : State} {m : MethodId} {meth : Method} {c : Code} (h1 : s.methodNamed? y = some m) (h2 : s.vm.method? m = some meth) (h3 : meth.code = some c) (h4 : c.code = bytes)
    (h5 : (c.maxLocals == mx && c.exceptionTable.isEmpty && decide (c.maxStack ≤ mostOperands) && decide (meth.sig.returnType = rt) && !meth.locks && decide (parseMethodDescriptor y.desc = some meth.sig)) = true) : (Jvm.Cond.code y bytes mx rt).before a s = true := by
  simp only [Bool.and_eq_true, beq_iff_eq, Bool.not_eq_true', decide_eq_true_eq] at h5
  obtain ⟨⟨⟨⟨⟨g1, g2⟩, g3⟩, g4⟩, g5⟩, g6⟩ := h5
  simp [Cond.before, Cond.holds, Cond.value, h1, h2, h3, h4, g1, g2, g3, g4, g5, g6]
def isCode : Jvm.Cond → Bool
  | .code _ _ _ _ => true
  | _ => false
theorem all_split {L : List Jvm.Cond} {P : Jvm.Cond → Bool} (h1 : L.all (fun c => isCode c || P c) = true) (h2 : ∀ c ∈ L.filter isCode, P c = true) : L.all P = true := by
  refine List.all_eq_true.mpr fun c hc => ?_
  have h := List.all_eq_true.mp h1 c hc
  rcases Bool.eq_false_or_eq_true (isCode c) with hi | hi
  · exact h2 c (List.mem_filter.mpr ⟨hc, hi⟩)
  · simpa [hi] using h
set_option maxRecDepth 65536 in
theorem w_c0 : (Jvm.Cond.code x code maxLocals ret).before args0 about1 = true := code_word (m := ⟨1, 1⟩) (meth := k1m1) (c := k1c1) (by decide +kernel) rfl rfl rfl (by decide +kernel)
set_option maxRecDepth 65536 in
theorem w_c1 : (Jvm.Cond.code ({ cls := "com/example/lotwise/lotwise/Halving", name := "held", desc := "(I)I" } : Jvm.MethodName) prog_6_method_2_code (2 : Nat) (Option.some Jvm.ClassFile.FieldType.int)).before args0 about1 = true := code_word (m := ⟨2, 1⟩) (meth := k2m1) (c := k2c1) (by decide +kernel) rfl rfl rfl (by decide +kernel)
set_option maxRecDepth 65536 in
theorem w_c2 : (Jvm.Cond.code ({ cls := "java/lang/Math", name := "max", desc := "(II)I" } : Jvm.MethodName) jdk_29_method_65_code (2 : Nat) (Option.some Jvm.ClassFile.FieldType.int)).before args0 about1 = true := code_word (m := ⟨3, 1⟩) (meth := k3m1) (c := k3c1) (by decide +kernel) rfl rfl rfl (by decide +kernel)
set_option maxRecDepth 65536 in
theorem w_c3 : (Jvm.Cond.code ({ cls := "java/lang/Integer", name := "numberOfLeadingZeros", desc := "(I)I" } : Jvm.MethodName) jdk_33_method_47_code (2 : Nat) (Option.some Jvm.ClassFile.FieldType.int)).before args0 about1 = true := code_word (m := ⟨9, 0⟩) (meth := k9m0) (c := k9c0) (by decide +kernel) rfl rfl rfl (by decide +kernel)
def codes1 : List Jvm.Cond := [Jvm.Cond.code x code maxLocals ret, Jvm.Cond.code ({ cls := "com/example/lotwise/lotwise/Halving", name := "held", desc := "(I)I" } : Jvm.MethodName) prog_6_method_2_code (2 : Nat) (Option.some Jvm.ClassFile.FieldType.int), Jvm.Cond.code ({ cls := "java/lang/Math", name := "max", desc := "(II)I" } : Jvm.MethodName) jdk_29_method_65_code (2 : Nat) (Option.some Jvm.ClassFile.FieldType.int), Jvm.Cond.code ({ cls := "java/lang/Integer", name := "numberOfLeadingZeros", desc := "(I)I" } : Jvm.MethodName) jdk_33_method_47_code (2 : Nat) (Option.some Jvm.ClassFile.FieldType.int)]
set_option maxRecDepth 65536 in
theorem codes_eq : words1.filter isCode = codes1 := rfl
theorem w_codes : ∀ c ∈ words1.filter isCode, c.before args0 about1 = true := by
  rw [codes_eq]
  intro c hc
  simp only [codes1, List.mem_cons, List.not_mem_nil, or_false] at hc
  rcases hc with rfl | rfl | rfl | rfl
  · exact w_c0
  · exact w_c1
  · exact w_c2
  · exact w_c3
set_option maxRecDepth 65536 in
theorem w_t1 : words1.all (fun c => isCode c || c.before args0 about1) = true := by decide +kernel
theorem w_tables : (allAtoms (Jvm.Cond.code x code maxLocals ret :: tables_1)).before args0 about1 = true := by
  rw [allAtoms_all]
  show words1.all (fun c => c.before args0 about1) = true
  refine all_split ?_ w_codes
  rw [w_t1]
set_option maxRecDepth 65536 in
theorem w_case : (Jvm.Cond.and given_1 narrow_1).before args0 about1 = true := by decide +kernel
theorem w_applies : (headSpec (Jvm.Cond.code x code maxLocals ret :: tables_1) room_1).applies x e0.platform about1 = true :=
  (Spec.applies_iff w_frames).mpr ⟨w_running, w_runnable, w_alone, w_named, w_hears, w_ripe, w_room, w_tables⟩
theorem atStart : AtStart classFile x code maxLocals ret World_1 tables_1 room_1 Calls_1 rest_1 Pre_1 launch0 p0 e0 about1 theMethod args0 below0 :=
  ⟨lists_1, trivial, launch0.admits_env _ _ _, launch0.least_env, fairChoices_fair.cas, fairChoices_fair.clock, w_frames, w_args, w_heap, w_applies, trivial, trivial, w_case⟩
end start1
theorem witness_1 : WitnessClaimed_1 := ⟨start1.p0, start1.e0, start1.about1, start1.theMethod, start1.args0, start1.below0, start1.atStart⟩
end Jvm.Pilot.@@N@@
