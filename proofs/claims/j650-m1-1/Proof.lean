import JvmDerived
import JvmDerived.Pilot.@@N@@Statement
import JvmDerived.Pilot.@@N@@Code
set_option linter.unusedVariables false
set_option linter.unusedSimpArgs false
namespace Jvm.RoadKit
open Sem ClassFile Op Lib Jvm.Stand Jvm.Free Jvm.LawKit
section New
variable {p : Program} {l : Launch} {e : Env} {R : Room} {s : State} {m : MethodId} {args : Array Value} {below : List Frame} {meth : Method} {c : Code} {T : State} {locs : List Loc} {cells slots : Nat}
theorem retI (X : Stand p l e R s m args below meth c T locs cells slots) (hx : p.tables.exec = Jvm.exec) {pc : Nat} {Ls : Array Slot} {z : Int32} {rest : List Value} (hret : meth.sig.returnType = some .int) (hd : decode c.code pc = .ok (.ireturn, 1)) {fs : List Frame}
    (hl : ∀ (f : JFrame) (acts : List Action), f.method = m → f.locked = none → f.entered = [] → (doReturn e (T.setTop f) acts (some (.int z))).1 = T.setFrames fs) : Steps p.tables e below (T.setTop (mkF m pc Ls (.int z :: rest))) (T.setFrames fs) := by
  have hm' : T.vm.method? m = some meth := X.method'
  have hn : narrow .int (.int z) = .int z := rfl
  show Steps p.tables e below (T.setTop { method := m, pc := pc, locals := Ls, stack := _ :: rest, locked := none }) _
  jvm_step X.here [X.here.top, hx, hd, hm', hret, hn]
  first | (intro acts; rw [hl _ acts rfl rfl rfl]) | rw [hl _ _ rfl rfl rfl]
  exact Steps.refl _
theorem lremM {g : JFrame} {target : State} (X : Stand p l e R s m args below meth c T locs cells slots) (hx : p.tables.exec = Jvm.exec) (hg : g.method = m) {x y : Int64} {rest : List Value} (hd : decode c.code g.pc = .ok (.lrem, 1)) (hs : g.stack = .long y :: .long x :: rest) (hy : y ≠ 0)
    (hr : Steps p.tables e below (T.setTop { g with pc := g.pc + 1, stack := .long (x % y) :: rest }) target) : Steps p.tables e below (T.setTop g) target := by
  have q : x - x / y * y = x % y := lrem_mod x y
  exact XS.lrem X.here hx hg hd hs hy (by rw [q]; exact hr)
/-- from the state t the invocation ends as Q says -/
def Done (p : Program) (e : Env) (below : List Frame) (Q : Outcome → State → Prop) (t : State) : Prop := ∃ s₂ o, Steps p.tables e below t s₂ ∧ s₂.status = .running ∧ Ended s₂ below o ∧ Q o s₂
theorem Done.of {p : Program} {e : Env} {below : List Frame} {Q : Outcome → State → Prop} {t t' : State} (h : Done p e below Q t') (k : ∀ target, Steps p.tables e below t' target → Steps p.tables e below t target) : Done p e below Q t := by
  obtain ⟨s₂, o, h1, h2⟩ := h
  exact ⟨s₂, o, k _ h1, h2⟩
end New
end Jvm.RoadKit
namespace Jvm.Pilot.@@N@@
open Jvm Jvm.ClassFile Sem Op Lib Jvm.Free Jvm.Stand Jvm.LawKit Jvm.RoadKit Bundle Jvm.Pilot.@@N@@.Jvm.D

theorem own_ix (x : Int32) : ¬ (x &&& (2147483647 : Int32)) = (-1 : Int32) := fun q => by
  have h := c_mask x (2147483647 : Int32) 31 (by decide) (by decide)
  rw [q] at h
  rw [show (-1 : Int32).toInt = -1 from by decide] at h
  omega
theorem own_ch (x : Int32) : ¬ (255 : Int32) < ((x &&& (255 : Int32)).toUInt32.toUInt16.toUInt32.toInt32) := by
  have h := c_mask x (255 : Int32) 8 (by decide) (by decide)
  have h2 := c_i2c (x &&& (255 : Int32))
  rw [Int32.lt_iff_toInt_lt, show (255 : Int32).toInt = 255 from by decide]
  omega
theorem d7_0 : decode jdk_30_method_1_code 0 = .ok (.aload_n 0, 1) := by decide +kernel
theorem d7_1 : decode jdk_30_method_1_code 1 = .ok (.invokespecial 1, 3) := by decide +kernel
theorem d7_4 : decode jdk_30_method_1_code 4 = .ok (.return_, 1) := by decide +kernel
theorem pn_7 : plainName "java/lang/Record" = true := by first | (simp [plainName, overriddenIn]; done) | decide +kernel
theorem ef_7 (m : MethodId) (u0 : Addr)  : entryFrame m #[(.ref u0)] 1 = mkF m 0 #[.val (.ref u0)] [] := by first | (simp [entryFrame, mkF, argsToLocals, Value.category]; done) | rfl
def Q7 (Z : State) (u0 : Addr) (h0 : Heap) (n0 : Nat) (v : Option Value) (h : Heap) (L : List Loc) : Prop := v = none ∧ Fr n0 L ∧ h = h0
set_option maxRecDepth 65536 in
set_option maxHeartbeats 40000000 in
theorem rm7 (l : Launch) (Z : State) (a0 : Array Value) (hw : ∀ d ∈ tables_1, d.before a0 Z = true) (ws : List Jvm.Cond) (u0 : Addr) (h0 : Heap) (n0 : Nat) (Z0 : n0 ≤ h0.size) :
    MetFree l (⟨"java/lang/Record", "<init>", "()V"⟩ : MethodName) (head1 (Jvm.Cond.code (⟨"java/lang/Record", "<init>", "()V"⟩ : MethodName) jdk_30_method_1_code 1 none :: ws) ({ frames := 1, cells := 0, slots := 0, locals := 12 } : Room)) (fun a U => a = #[(.ref u0)] ∧ Z.Warmed39 U.vm ∧ U.heap = h0) (fun _ _ _ _ _ => True) (fun _ U o U' => ∃ v L, o = .returned v ∧ Q7 Z u0 h0 n0 v U'.heap L ∧ FrameEnd U o U' L ({ frames := 1, cells := 0, slots := 0, locals := 12 } : Room).cells ({ frames := 1, cells := 0, slots := 0, locals := 12 } : Room).slots) := by
  refine MetFree.of_bodySF (plainFor_of_name pn_7) hisR ?_
  intro p e s m args below meth c s₁ Bd hml0 hP hK
  obtain ⟨rfl, hZ, hh⟩ := hP
  have hx := Bd.exec
  have hby := Bd.bytes
  have hml : c.maxLocals = 1 := hml0
  have hown : s.vm.findClass "java/lang/Record" = some m.cls := findClass_of_methodNamed Bd.named
  have hnm := (name_of_methodNamed Bd.named Bd.method).1
  have X0 : Stand p l e ({ frames := 1, cells := 0, slots := 0, locals := 12 } : Room) s m #[(.ref u0)] below meth c s₁ [] 0 0 := Stand.of_body Bd
  have e0 : s₁.heap = h0 := by rw [← hh, Bd.state]; rfl
  have N0 := Fr.nil n0
  have pre0 : ∀ t, Steps p.tables e below (s₁.setTop (mkF m 0 #[.val (.ref u0)] [])) t → Steps p.tables e below (s₁.setTop (entryFrame m #[(.ref u0)] 1)) t := fun t k => castTop (ef_7 m u0) k
  show Done p e below _ _
  refine Done.of ?_ pre0
  obtain ⟨T1, X1, e1, st1⟩ := initO X0 hx hZ hown (hw _ (List.mem_of_getElem? (i := 38) rfl)) (hw _ (List.mem_of_getElem? (i := 20) rfl)) (hw _ (List.mem_of_getElem? (i := 21) rfl)) e0 (g := (mkF m 1 #[.val (.ref u0)] [(.ref u0)])) rfl (by rw [hml]; rfl) rfl (hb hby d7_1) (by decide) (W := 0) (by show 2 * 0 + _ ≤ _; exact Nat.le_of_eq rfl) (by decide)
  obtain ⟨fs, hr, hrun, hended, hW, hsame⟩ := X1.leave (v := none) (fun _ => rfl)
  refine ⟨_, _, ?_, hrun, hended, _, _, rfl, ?_, ⟨_, rfl⟩, hW, hsame.mono (by decide) (by decide)⟩
  · show Steps p.tables e below (s₁.setTop (mkF m 0 #[.val (.ref u0)] [])) _
    refine XS.aloadN X0.here hx rfl (hb hby d7_0) rfl rfl ?_
    show Steps p.tables e below (s₁.setTop (mkF m 1 #[.val (.ref u0)] [(.ref u0)])) _
    refine st1 _ ?_
    show Steps p.tables e below (T1.setTop (mkF m 4 #[.val (.ref u0)] [])) _
    exact X1.returnOut hx Bd.returns (hb hby d7_4) hr
  · show Q7 Z u0  h0 n0 _ T1.heap _
    rw [e1]
    refine ⟨?_, N0, rfl⟩
    rfl
theorem d2_0 : decode jdk_43_method_3_code 0 = .ok (.iload_n 0, 1) := by decide +kernel
theorem d2_1 : decode jdk_43_method_3_code 1 = .ok (.sipush 255, 3) := by decide +kernel
theorem d2_4 : decode jdk_43_method_3_code 4 = .ok (.if_icmp .gt 7, 3) := by decide +kernel
theorem d2_7 : decode jdk_43_method_3_code 7 = .ok (.iconst 1, 1) := by decide +kernel
theorem d2_8 : decode jdk_43_method_3_code 8 = .ok (.goto 4, 3) := by decide +kernel
theorem d2_11 : decode jdk_43_method_3_code 11 = .ok (.iconst 0, 1) := by decide +kernel
theorem d2_12 : decode jdk_43_method_3_code 12 = .ok (.ireturn, 1) := by decide +kernel
theorem pn_2 : plainName "java/lang/StringLatin1" = true := by first | (simp [plainName, overriddenIn]; done) | decide +kernel
theorem ef_2 (m : MethodId) (p0 : Int32)  : entryFrame m #[(.int p0)] 1 = mkF m 0 #[.val (.int p0)] [] := by first | (simp [entryFrame, mkF, argsToLocals, Value.category]; done) | rfl
def Q2 (Z : State) (p0 : Int32) (h0 : Heap) (n0 : Nat) (v : Option Value) (h : Heap) (L : List Loc) : Prop := v = some (.int (if (255 : Int32) < p0 then (0 : Int32) else (1 : Int32))) ∧ Fr n0 L ∧ h = h0
set_option maxRecDepth 65536 in
set_option maxHeartbeats 40000000 in
theorem rm2 (l : Launch) (Z : State) (a0 : Array Value) (hw : ∀ d ∈ tables_1, d.before a0 Z = true) (ws : List Jvm.Cond) (p0 : Int32) (h0 : Heap) (n0 : Nat) (Z0 : n0 ≤ h0.size) :
    MetFree l (⟨"java/lang/StringLatin1", "canEncode", "(C)Z"⟩ : MethodName) (head1 (Jvm.Cond.code (⟨"java/lang/StringLatin1", "canEncode", "(C)Z"⟩ : MethodName) jdk_43_method_3_code 1 (some .boolean) :: ws) ({ frames := 0, cells := 0, slots := 0, locals := 0 } : Room)) (fun a U => a = #[(.int p0)] ∧ Z.Warmed39 U.vm ∧ U.heap = h0) (fun _ _ _ _ _ => True) (fun _ U o U' => ∃ v L, o = .returned v ∧ Q2 Z p0 h0 n0 v U'.heap L ∧ FrameEnd U o U' L ({ frames := 0, cells := 0, slots := 0, locals := 0 } : Room).cells ({ frames := 0, cells := 0, slots := 0, locals := 0 } : Room).slots) := by
  refine MetFree.of_bodySF (plainFor_of_name pn_2) hisR ?_
  intro p e s m args below meth c s₁ Bd hml0 hP hK
  obtain ⟨rfl, hZ, hh⟩ := hP
  have hx := Bd.exec
  have hby := Bd.bytes
  have hml : c.maxLocals = 1 := hml0
  have hown : s.vm.findClass "java/lang/StringLatin1" = some m.cls := findClass_of_methodNamed Bd.named
  have hnm := (name_of_methodNamed Bd.named Bd.method).1
  have X0 : Stand p l e ({ frames := 0, cells := 0, slots := 0, locals := 0 } : Room) s m #[(.int p0)] below meth c s₁ [] 0 0 := Stand.of_body Bd
  have e0 : s₁.heap = h0 := by rw [← hh, Bd.state]; rfl
  have N0 := Fr.nil n0
  have pre0 : ∀ t, Steps p.tables e below (s₁.setTop (mkF m 0 #[.val (.int p0)] [])) t → Steps p.tables e below (s₁.setTop (entryFrame m #[(.int p0)] 1)) t := fun t k => castTop (ef_2 m p0) k
  show Done p e below _ _
  refine Done.of ?_ pre0
  have J4_1 : ∀ wj : Int32, wj = (if (255 : Int32) < p0 then (0 : Int32) else (1 : Int32)) → ∀ target, Steps p.tables e below (s₁.setTop (mkF m 12 #[.val (.int p0)] [(.int wj)])) target → Steps p.tables e below (s₁.setTop (mkF m 4 #[.val (.int p0)] [(.int (255 : Int32)), (.int p0)])) target := by
    intro wj hw0 target kt
    by_cases hj4 : (255 : Int32) < p0
    · rw [if_pos hj4] at hw0
      show Steps p.tables e below (s₁.setTop (mkF m 4 #[.val (.int p0)] [(.int (255 : Int32)), (.int p0)])) _
      refine XS.icmpYes X0.here hx rfl (pc0 := 4) (pc' := 11) rfl (hb hby d2_4) rfl (tlt hj4).2.2.1 (by decide) (by decide) ?_
      show Steps p.tables e below (s₁.setTop (mkF m 11 #[.val (.int p0)] [])) _
      refine XS.iconst X0.here hx rfl (hb hby d2_11) ?_
      rw [hw0] at kt
      exact kt
    · rw [if_neg hj4] at hw0
      show Steps p.tables e below (s₁.setTop (mkF m 4 #[.val (.int p0)] [(.int (255 : Int32)), (.int p0)])) _
      refine XS.icmpNo X0.here hx rfl (hb hby d2_4) rfl (flt hj4).2.2.1 ?_
      show Steps p.tables e below (s₁.setTop (mkF m 7 #[.val (.int p0)] [])) _
      refine XS.iconst X0.here hx rfl (hb hby d2_7) ?_
      show Steps p.tables e below (s₁.setTop (mkF m 8 #[.val (.int p0)] [(.int (1 : Int32))])) _
      refine XS.goto X0.here hx rfl (pc0 := 8) (pc' := 12) rfl (hb hby d2_8) (by decide) (by decide) ?_
      rw [hw0] at kt
      exact kt
  obtain ⟨fs, hr, hrun, hended, hW, hsame⟩ := X0.leave (v := some (.int (nar .boolean (if (255 : Int32) < p0 then (0 : Int32) else (1 : Int32))))) (fun h => by rw [Bd.returns] at h; cases h)
  refine ⟨_, _, ?_, hrun, hended, _, _, rfl, ?_, ⟨_, rfl⟩, hW, hsame.mono (by decide) (by decide)⟩
  · show Steps p.tables e below (s₁.setTop (mkF m 0 #[.val (.int p0)] [])) _
    refine XS.iloadN X0.here hx rfl (hb hby d2_0) rfl ?_
    show Steps p.tables e below (s₁.setTop (mkF m 1 #[.val (.int p0)] [(.int p0)])) _
    refine XS.sipush X0.here hx rfl (hb hby d2_1) ?_
    show Steps p.tables e below (s₁.setTop (mkF m 4 #[.val (.int p0)] [(.int (255 : Int32)), (.int p0)])) _
    refine J4_1 _ rfl _ ?_
    show Steps p.tables e below (s₁.setTop (mkF m 12 #[.val (.int p0)] [(.int (if (255 : Int32) < p0 then (0 : Int32) else (1 : Int32)))])) _
    exact retN X0 hx (t := .boolean) Bd.returns (by simp) (hb hby d2_12) hr
  · show Q2 Z p0  h0 n0 _ s₁.heap _
    rw [e0]
    refine ⟨?_, N0, rfl⟩
    ((repeat' split) <;> rfl)
theorem d3_0 : decode jdk_43_method_46_code 0 = .ok (.iconst 1, 1) := by decide +kernel
theorem d3_1 : decode jdk_43_method_46_code 1 = .ok (.newarray .byte, 2) := by decide +kernel
theorem d3_3 : decode jdk_43_method_46_code 3 = .ok (.dup, 1) := by decide +kernel
theorem d3_4 : decode jdk_43_method_46_code 4 = .ok (.iconst 0, 1) := by decide +kernel
theorem d3_5 : decode jdk_43_method_46_code 5 = .ok (.iload_n 0, 1) := by decide +kernel
theorem d3_6 : decode jdk_43_method_46_code 6 = .ok (.i2b, 1) := by decide +kernel
theorem d3_7 : decode jdk_43_method_46_code 7 = .ok (.bastore, 1) := by decide +kernel
theorem d3_8 : decode jdk_43_method_46_code 8 = .ok (.areturn, 1) := by decide +kernel
theorem pn_3 : plainName "java/lang/StringLatin1" = true := by first | (simp [plainName, overriddenIn]; done) | decide +kernel
theorem ef_3 (m : MethodId) (p0 : Int32)  : entryFrame m #[(.int p0)] 1 = mkF m 0 #[.val (.int p0)] [] := by first | (simp [entryFrame, mkF, argsToLocals, Value.category]; done) | rfl
def Q3 (Z : State) (p0 : Int32) (h0 : Heap) (n0 : Nat) (v : Option Value) (h : Heap) (L : List Loc) : Prop := ∃ b : Addr, v = some (.ref b) ∧ Fr n0 L ∧ Keep h0 h []
set_option maxRecDepth 65536 in
set_option maxHeartbeats 40000000 in
theorem rm3 (l : Launch) (Z : State) (a0 : Array Value) (hw : ∀ d ∈ tables_1, d.before a0 Z = true) (ws : List Jvm.Cond) (p0 : Int32) (h0 : Heap) (n0 : Nat) (Z0 : n0 ≤ h0.size) :
    MetFree l (⟨"java/lang/StringLatin1", "toBytes", "(C)[B"⟩ : MethodName) (head1 (Jvm.Cond.code (⟨"java/lang/StringLatin1", "toBytes", "(C)[B"⟩ : MethodName) jdk_43_method_46_code 1 (some (.array .byte)) :: ws) ({ frames := 0, cells := 1, slots := 1, locals := 0 } : Room)) (fun a U => a = #[(.int p0)] ∧ Z.Warmed39 U.vm ∧ U.heap = h0) (fun _ _ _ _ _ => True) (fun _ U o U' => ∃ v L, o = .returned v ∧ Q3 Z p0 h0 n0 v U'.heap L ∧ FrameEnd U o U' L ({ frames := 0, cells := 1, slots := 1, locals := 0 } : Room).cells ({ frames := 0, cells := 1, slots := 1, locals := 0 } : Room).slots) := by
  refine MetFree.of_bodySF (plainFor_of_name pn_3) hisR ?_
  intro p e s m args below meth c s₁ Bd hml0 hP hK
  obtain ⟨rfl, hZ, hh⟩ := hP
  have hx := Bd.exec
  have hby := Bd.bytes
  have hml : c.maxLocals = 1 := hml0
  have hown : s.vm.findClass "java/lang/StringLatin1" = some m.cls := findClass_of_methodNamed Bd.named
  have hnm := (name_of_methodNamed Bd.named Bd.method).1
  have X0 : Stand p l e ({ frames := 0, cells := 1, slots := 1, locals := 0 } : Room) s m #[(.int p0)] below meth c s₁ [] 0 0 := Stand.of_body Bd
  have e0 : s₁.heap = h0 := by rw [← hh, Bd.state]; rfl
  have N0 := Fr.nil n0
  have pre0 : ∀ t, Steps p.tables e below (s₁.setTop (mkF m 0 #[.val (.int p0)] [])) t → Steps p.tables e below (s₁.setTop (entryFrame m #[(.int p0)] 1)) t := fun t k => castTop (ef_3 m p0) k
  show Done p e below _ _
  refine Done.of ?_ pre0
  obtain ⟨T1, h1, k1, X1, e1, E1, A1, st1⟩ := newP X0 hx hZ (hw _ (List.mem_of_getElem? (i := 14) rfl)) e0 (g := (mkF m 1 #[.val (.int p0)] [(.int (1 : Int32))])) rfl (hb hby d3_1) rfl (by decide) (cap := 1) (by decide) (by decide) (by decide) (by decide)
  obtain ⟨b1, g1⟩ : ∃ z, z = h0.size := ⟨_, rfl⟩
  rw [← g1] at A1 st1
  have gnb1 : n0 ≤ b1 := Nat.le_trans Z0 (Nat.le_of_eq g1.symm)
  have Z1 : n0 ≤ h1.size := Nat.le_trans Z0 E1.1
  have szb1 : h0.size ≤ b1 := Nat.le_trans (Keep.refl h0 []).1 (Nat.le_of_eq g1.symm)
  have Kp1 := (Keep.refl h0 []).ext E1
  have V1 : Arv Z h1 b1 k1 .byte (1 : Int32) [(.int (0 : Int32))] (.int (0 : Int32)) := (Arv.new A1 (by decide)).pad (pad_rep [] (.int (0 : Int32)) 1)
  obtain ⟨cl2, Ar2, qq2, S2, M2, H2, G2⟩ := V1
  have hin2 : ¬ ((0 : Int32) < 0 ∨ cl2.slots.size ≤ ((0 : Int32)).toNatClampNeg) := inb_of S2 ⟨by decide, by decide⟩
  obtain ⟨T3, h3, X3, e3, W3, st3⟩ := stB X1 hx hZ e1 Ar2 (j := (0 : Int32)) hin2 (g := (mkF m 7 #[.val (.int p0)] [(.int (p0.toInt8.toInt32)), (.int (0 : Int32)), (.ref b1), (.ref b1)])) rfl rfl (hb hby d3_7)
  have V3 : Arv Z h3 b1 k1 .byte (1 : Int32) [(.int ((p0.toInt8.toInt32).toInt8.toInt32))] _ := Arv.set Ar2 qq2 S2 M2 H2 G2 (fits_nar_byte _) W3 0 rfl (Nat.le_of_ble_eq_true rfl)
  have N3 := Fr.snoc X3 N0 gnb1
  have Z3 : n0 ≤ h3.size := Nat.le_trans Z1 (Nat.le_of_eq W3.size.symm)
  have Kp3 := Kp1.wr W3 (Or.inr szb1)
  obtain ⟨fs, hr, hrun, hended, hW, hsame⟩ := X3.leave (v := some (.ref b1)) (fun h => by rw [Bd.returns] at h; cases h)
  refine ⟨_, _, ?_, hrun, hended, _, _, rfl, ?_, ⟨_, rfl⟩, hW, hsame.mono (by decide) (by decide)⟩
  · show Steps p.tables e below (s₁.setTop (mkF m 0 #[.val (.int p0)] [])) _
    refine XS.iconst X0.here hx rfl (hb hby d3_0) ?_
    show Steps p.tables e below (s₁.setTop (mkF m 1 #[.val (.int p0)] [(.int (1 : Int32))])) _
    refine st1 _ ?_
    show Steps p.tables e below (T1.setTop (mkF m 3 #[.val (.int p0)] [(.ref b1)])) _
    refine XS.dup X1.here hx rfl (hb hby d3_3) rfl rfl ?_
    show Steps p.tables e below (T1.setTop (mkF m 4 #[.val (.int p0)] [(.ref b1), (.ref b1)])) _
    refine XS.iconst X1.here hx rfl (hb hby d3_4) ?_
    show Steps p.tables e below (T1.setTop (mkF m 5 #[.val (.int p0)] [(.int (0 : Int32)), (.ref b1), (.ref b1)])) _
    refine XS.iloadN X1.here hx rfl (hb hby d3_5) rfl ?_
    show Steps p.tables e below (T1.setTop (mkF m 6 #[.val (.int p0)] [(.int p0), (.int (0 : Int32)), (.ref b1), (.ref b1)])) _
    refine XS.i2b X1.here hx rfl (hb hby d3_6) rfl ?_
    show Steps p.tables e below (T1.setTop (mkF m 7 #[.val (.int p0)] [(.int (p0.toInt8.toInt32)), (.int (0 : Int32)), (.ref b1), (.ref b1)])) _
    refine st3 _ ?_
    show Steps p.tables e below (T3.setTop (mkF m 8 #[.val (.int p0)] [(.ref b1)])) _
    jvm_step X3.here [X3.here.top, hx, (hb hby d3_8), X3.method', Bd.returns, Value.isRef, FieldType.isReference]
    first | (intro acts; rw [hr _ acts rfl rfl rfl]) | rw [hr _ _ rfl rfl rfl]
    exact Steps.refl _
  · show Q3 Z p0  h0 n0 _ T3.heap _
    rw [e3]
    exact ⟨b1, rfl, N3, Kp3⟩
theorem d4_0 : decode jdk_42_method_151_code 0 = .ok (.aload_n 0, 1) := by decide +kernel
theorem d4_1 : decode jdk_42_method_151_code 1 = .ok (.invokespecial 1, 3) := by decide +kernel
theorem d4_4 : decode jdk_42_method_151_code 4 = .ok (.aload_n 0, 1) := by decide +kernel
theorem d4_5 : decode jdk_42_method_151_code 5 = .ok (.aload_n 1, 1) := by decide +kernel
theorem d4_6 : decode jdk_42_method_151_code 6 = .ok (.putfield 9, 3) := by decide +kernel
theorem d4_9 : decode jdk_42_method_151_code 9 = .ok (.aload_n 0, 1) := by decide +kernel
theorem d4_10 : decode jdk_42_method_151_code 10 = .ok (.iload_n 2, 1) := by decide +kernel
theorem d4_11 : decode jdk_42_method_151_code 11 = .ok (.putfield 15, 3) := by decide +kernel
theorem d4_14 : decode jdk_42_method_151_code 14 = .ok (.return_, 1) := by decide +kernel
theorem pn_4 : plainName "java/lang/String" = true := by first | (simp [plainName, overriddenIn]; done) | decide +kernel
theorem ef_4 (m : MethodId) (u0 : Addr) (u1 : Addr) (p2 : Int32)  : entryFrame m #[(.ref u0), (.ref u1), (.int p2)] 3 = mkF m 0 #[.val (.ref u0), .val (.ref u1), .val (.int p2)] [] := by first | (simp [entryFrame, mkF, argsToLocals, Value.category]; done) | rfl
def Q4 (Z : State) (u0 : Addr) (u1 : Addr) (p2 : Int32) (h0 : Heap) (n0 : Nat) (v : Option Value) (h : Heap) (L : List Loc) : Prop := v = none ∧ Fr n0 L ∧ Keep h0 h [u0]
set_option maxRecDepth 65536 in
set_option maxHeartbeats 40000000 in
theorem rm4 (l : Launch) (Z : State) (a0 : Array Value) (hw : ∀ d ∈ tables_1, d.before a0 Z = true) (ws : List Jvm.Cond) (u0 : Addr) (u1 : Addr) (p2 : Int32) (h0 : Heap) (n0 : Nat) (Z0 : n0 ≤ h0.size) (E0 : Exa Z h0 u0 "java/lang/String") (g0 : n0 ≤ u0) (F_value : Fld Z h0 u0 "java/lang/String" "value" "[B" .null) (F_coder : Fld Z h0 u0 "java/lang/String" "coder" "B" (.int (0 : Int32))) :
    MetFree l (⟨"java/lang/String", "<init>", "([BB)V"⟩ : MethodName) (head1 (Jvm.Cond.code (⟨"java/lang/String", "<init>", "([BB)V"⟩ : MethodName) jdk_42_method_151_code 3 none :: ws) ({ frames := 1, cells := 0, slots := 0, locals := 12 } : Room)) (fun a U => a = #[(.ref u0), (.ref u1), (.int p2)] ∧ Z.Warmed39 U.vm ∧ U.heap = h0) (fun _ _ _ _ _ => True) (fun _ U o U' => ∃ v L, o = .returned v ∧ Q4 Z u0 u1 p2 h0 n0 v U'.heap L ∧ FrameEnd U o U' L ({ frames := 1, cells := 0, slots := 0, locals := 12 } : Room).cells ({ frames := 1, cells := 0, slots := 0, locals := 12 } : Room).slots) := by
  refine MetFree.of_bodySF (plainFor_of_name pn_4) hisR ?_
  intro p e s m args below meth c s₁ Bd hml0 hP hK
  obtain ⟨rfl, hZ, hh⟩ := hP
  have hx := Bd.exec
  have hby := Bd.bytes
  have hml : c.maxLocals = 3 := hml0
  have hown : s.vm.findClass "java/lang/String" = some m.cls := findClass_of_methodNamed Bd.named
  have hnm := (name_of_methodNamed Bd.named Bd.method).1
  have X0 : Stand p l e ({ frames := 1, cells := 0, slots := 0, locals := 12 } : Room) s m #[(.ref u0), (.ref u1), (.int p2)] below meth c s₁ [] 0 0 := Stand.of_body Bd
  have e0 : s₁.heap = h0 := by rw [← hh, Bd.state]; rfl
  have N0 := Fr.nil n0
  have pre0 : ∀ t, Steps p.tables e below (s₁.setTop (mkF m 0 #[.val (.ref u0), .val (.ref u1), .val (.int p2)] [])) t → Steps p.tables e below (s₁.setTop (entryFrame m #[(.ref u0), (.ref u1), (.int p2)] 3)) t := fun t k => castTop (ef_4 m u0 u1 p2) k
  show Done p e below _ _
  refine Done.of ?_ pre0
  obtain ⟨T1, X1, e1, st1⟩ := initO X0 hx hZ hown (hw _ (List.mem_of_getElem? (i := 19) rfl)) (hw _ (List.mem_of_getElem? (i := 20) rfl)) (hw _ (List.mem_of_getElem? (i := 21) rfl)) e0 (g := (mkF m 1 #[.val (.ref u0), .val (.ref u1), .val (.int p2)] [(.ref u0)])) rfl (by rw [hml]; rfl) rfl (hb hby d4_1) (by decide) (W := 0) (by show 2 * 0 + _ ≤ _; exact Nat.le_of_eq rfl) (by decide)
  obtain ⟨T2, h2, X2, e2, W2, st2⟩ := putF X1 hx hZ hown (host := "") (Or.inl (hw _ (List.mem_of_getElem? (i := 22) rfl))) Via.refl e1 F_value E0 (Or.inr ⟨(hw _ (List.mem_of_getElem? (i := 23) rfl)), rfl, hnm⟩) (hw _ (List.mem_of_getElem? (i := 10) rfl)) (ty := (.array .byte)) (by decide) rfl rfl (g := (mkF m 6 #[.val (.ref u0), .val (.ref u1), .val (.int p2)] [(.ref u1), (.ref u0)])) rfl rfl (hb hby d4_6)
  have Fw2 := Fld.same W2 F_value
  have N2 := Fr.snoc X2 N0 g0
  have Z2 : n0 ≤ h2.size := Nat.le_trans Z0 (Nat.le_of_eq W2.size.symm)
  have Kp2 := (Keep.refl h0 [u0]).wr W2 (Or.inl (List.mem_of_getElem? (i := 0) rfl))
  obtain ⟨T3, h3, X3, e3, W3, st3⟩ := putFN X2 hx hZ hown (hw _ (List.mem_of_getElem? (i := 24) rfl)) Via.refl e2 (F_coder.other W2 (Or.inr (slot_ne (Or.inr (hw _ (List.mem_of_getElem? (i := 25) rfl))) (Or.inr (hw _ (List.mem_of_getElem? (i := 23) rfl))) (by decide) (t := .byte) (t' := (.array .byte)) (by decide) (by decide)))) (E0.wr W2) (Or.inr ⟨(hw _ (List.mem_of_getElem? (i := 25) rfl)), rfl, hnm⟩) (hw _ (List.mem_of_getElem? (i := 10) rfl)) (ty := .byte) (v' := .int (p2.toInt8.toInt32)) (by decide) rfl (fits_nar_byte _) (g := (mkF m 11 #[.val (.ref u0), .val (.ref u1), .val (.int p2)] [(.int p2), (.ref u0)])) rfl rfl (hb hby d4_11)
  have Fw3 := Fld.same W3 (F_coder.other W2 (Or.inr (slot_ne (Or.inr (hw _ (List.mem_of_getElem? (i := 25) rfl))) (Or.inr (hw _ (List.mem_of_getElem? (i := 23) rfl))) (by decide) (t := .byte) (t' := (.array .byte)) (by decide) (by decide))))
  have N3 := Fr.snoc X3 N2 g0
  have Z3 : n0 ≤ h3.size := Nat.le_trans Z2 (Nat.le_of_eq W3.size.symm)
  have Kp3 := Kp2.wr W3 (Or.inl (List.mem_of_getElem? (i := 0) rfl))
  obtain ⟨fs, hr, hrun, hended, hW, hsame⟩ := X3.leave (v := none) (fun _ => rfl)
  refine ⟨_, _, ?_, hrun, hended, _, _, rfl, ?_, ⟨_, rfl⟩, hW, hsame.mono (by decide) (by decide)⟩
  · show Steps p.tables e below (s₁.setTop (mkF m 0 #[.val (.ref u0), .val (.ref u1), .val (.int p2)] [])) _
    refine XS.aloadN X0.here hx rfl (hb hby d4_0) rfl rfl ?_
    show Steps p.tables e below (s₁.setTop (mkF m 1 #[.val (.ref u0), .val (.ref u1), .val (.int p2)] [(.ref u0)])) _
    refine st1 _ ?_
    show Steps p.tables e below (T1.setTop (mkF m 4 #[.val (.ref u0), .val (.ref u1), .val (.int p2)] [])) _
    refine XS.aloadN X1.here hx rfl (hb hby d4_4) rfl rfl ?_
    show Steps p.tables e below (T1.setTop (mkF m 5 #[.val (.ref u0), .val (.ref u1), .val (.int p2)] [(.ref u0)])) _
    refine XS.aloadN X1.here hx rfl (hb hby d4_5) rfl rfl ?_
    show Steps p.tables e below (T1.setTop (mkF m 6 #[.val (.ref u0), .val (.ref u1), .val (.int p2)] [(.ref u1), (.ref u0)])) _
    refine st2 _ ?_
    show Steps p.tables e below (T2.setTop (mkF m 9 #[.val (.ref u0), .val (.ref u1), .val (.int p2)] [])) _
    refine XS.aloadN X2.here hx rfl (hb hby d4_9) rfl rfl ?_
    show Steps p.tables e below (T2.setTop (mkF m 10 #[.val (.ref u0), .val (.ref u1), .val (.int p2)] [(.ref u0)])) _
    refine XS.iloadN X2.here hx rfl (hb hby d4_10) rfl ?_
    show Steps p.tables e below (T2.setTop (mkF m 11 #[.val (.ref u0), .val (.ref u1), .val (.int p2)] [(.int p2), (.ref u0)])) _
    refine st3 _ ?_
    show Steps p.tables e below (T3.setTop (mkF m 14 #[.val (.ref u0), .val (.ref u1), .val (.int p2)] [])) _
    exact X3.returnOut hx Bd.returns (hb hby d4_14) hr
  · show Q4 Z u0 u1 p2  h0 n0 _ T3.heap _
    rw [e3]
    exact ⟨rfl, N3, Kp3⟩
theorem d1_0 : decode jdk_42_method_139_code 0 = .ok (.getstatic 38, 3) := by decide +kernel
theorem d1_3 : decode jdk_42_method_139_code 3 = .ok (.ifCond .eq 23, 3) := by decide +kernel
theorem d1_6 : decode jdk_42_method_139_code 6 = .ok (.iload_n 0, 1) := by decide +kernel
theorem d1_7 : decode jdk_42_method_139_code 7 = .ok (.invokestatic 1015, 3) := by decide +kernel
theorem d1_10 : decode jdk_42_method_139_code 10 = .ok (.ifCond .eq 16, 3) := by decide +kernel
theorem d1_13 : decode jdk_42_method_139_code 13 = .ok (.new 10, 3) := by decide +kernel
theorem d1_16 : decode jdk_42_method_139_code 16 = .ok (.dup, 1) := by decide +kernel
theorem d1_17 : decode jdk_42_method_139_code 17 = .ok (.iload_n 0, 1) := by decide +kernel
theorem d1_18 : decode jdk_42_method_139_code 18 = .ok (.invokestatic 1018, 3) := by decide +kernel
theorem d1_21 : decode jdk_42_method_139_code 21 = .ok (.iconst 0, 1) := by decide +kernel
theorem d1_22 : decode jdk_42_method_139_code 22 = .ok (.invokespecial 209, 3) := by decide +kernel
theorem d1_25 : decode jdk_42_method_139_code 25 = .ok (.areturn, 1) := by decide +kernel
theorem pn_1 : plainName "java/lang/String" = true := by first | (simp [plainName, overriddenIn]; done) | decide +kernel
theorem pd_0 : parseMethodDescriptor "(C)Z" = some ⟨[.char], some .boolean⟩ := by decide +kernel
theorem pd_1 : parseMethodDescriptor "(C)[B" = some ⟨[.char], some (.array .byte)⟩ := by decide +kernel
theorem pd_2 : parseMethodDescriptor "([BB)V" = some ⟨[(.array .byte), .byte], none⟩ := by decide +kernel
theorem ef_1 (m : MethodId) (p0 : Int32)  : entryFrame m #[(.int p0)] 1 = mkF m 0 #[.val (.int p0)] [] := by first | (simp [entryFrame, mkF, argsToLocals, Value.category]; done) | rfl
def Q1 (Z : State) (p0 : Int32) (cs : Int32) (h0 : Heap) (n0 : Nat) (v : Option Value) (h : Heap) (L : List Loc) : Prop := ∃ b : Addr, v = some (.ref b) ∧ Fr n0 L ∧ Keep h0 h []
set_option maxRecDepth 65536 in
set_option maxHeartbeats 40000000 in
theorem rm1 (l : Launch) (Z : State) (a0 : Array Value) (hw : ∀ d ∈ tables_1, d.before a0 Z = true) (ws : List Jvm.Cond) (p0 : Int32) (cs : Int32) (h0 : Heap) (n0 : Nat) (Z0 : n0 ≤ h0.size) (SCS : Sta Z h0 "java/lang/String" "COMPACT_STRINGS" "Z" (.int cs)) (hcs : ¬ cs = (0 : Int32)) (hch : ¬ (255 : Int32) < p0) :
    MetFree l (⟨"java/lang/String", "valueOf", "(C)Ljava/lang/String;"⟩ : MethodName) (head1 (Jvm.Cond.code (⟨"java/lang/String", "valueOf", "(C)Ljava/lang/String;"⟩ : MethodName) jdk_42_method_139_code 1 (some (.object "java/lang/String")) :: ws) ({ frames := 2, cells := 2, slots := 5, locals := 27 } : Room)) (fun a U => a = #[(.int p0)] ∧ Z.Warmed39 U.vm ∧ U.heap = h0) (fun _ _ _ _ _ => True) (fun _ U o U' => ∃ v L, o = .returned v ∧ Q1 Z p0 cs h0 n0 v U'.heap L ∧ FrameEnd U o U' L ({ frames := 2, cells := 2, slots := 5, locals := 27 } : Room).cells ({ frames := 2, cells := 2, slots := 5, locals := 27 } : Room).slots) := by
  refine MetFree.of_bodySF (plainFor_of_name pn_1) hisR ?_
  intro p e s m args below meth c s₁ Bd hml0 hP hK
  obtain ⟨rfl, hZ, hh⟩ := hP
  have hx := Bd.exec
  have hby := Bd.bytes
  have hml : c.maxLocals = 1 := hml0
  have hown : s.vm.findClass "java/lang/String" = some m.cls := findClass_of_methodNamed Bd.named
  have hnm := (name_of_methodNamed Bd.named Bd.method).1
  have X0 : Stand p l e ({ frames := 2, cells := 2, slots := 5, locals := 27 } : Room) s m #[(.int p0)] below meth c s₁ [] 0 0 := Stand.of_body Bd
  have e0 : s₁.heap = h0 := by rw [← hh, Bd.state]; rfl
  have N0 := Fr.nil n0
  have pre0 : ∀ t, Steps p.tables e below (s₁.setTop (mkF m 0 #[.val (.int p0)] [])) t → Steps p.tables e below (s₁.setTop (entryFrame m #[(.int p0)] 1)) t := fun t k => castTop (ef_1 m p0) k
  show Done p e below _ _
  refine Done.of ?_ pre0
  obtain ⟨T1, X1, e1, st1⟩ := getS2 X0 hx hZ hown (host := "") (Or.inl (hw _ (List.mem_of_getElem? (i := 4) rfl))) Via.refl e0 SCS (g := (mkF m 0 #[.val (.int p0)] [])) rfl (hb hby d1_0)
  have hd3_2 : ¬ (cs = (0 : Int32)) := by exact hcs
  obtain ⟨_, _, ⟨T3, L3, k3, n3⟩, -, X3, ⟨Lc3, hQ3, l3, y3, z3⟩, st3⟩ := Jvm.LawKit.callS X1 hx (y := (⟨"java/lang/StringLatin1", "canEncode", "(C)Z"⟩ : MethodName)) hown (mvT hZ (hw _ (List.mem_of_getElem? (i := 5) rfl))) (mvT hZ (hw _ (List.mem_of_getElem? (i := 6) rfl))) (mvT hZ (hw _ (List.mem_of_getElem? (i := 7) rfl))) (mvT hZ (hw _ (List.mem_of_getElem? (i := 8) rfl))) (by decide) (backOf (W := 0) (rm2 l Z a0 hw [] p0 h0 n0 Z0 ) hZ (hw _ (List.mem_of_getElem? (i := 8) rfl)) (hw _ (List.mem_of_getElem? (i := 7) rfl)) (by decide) (by decide)) (g := (mkF m 7 #[.val (.int p0)] [(.int p0)])) rfl (by rw [hml]; rfl) (argsL := [(.int p0)]) (rest := []) (lenOf pd_0 rfl) rfl (by show 2 * 0 + _ ≤ _; exact Nat.le_of_eq rfl) (hb hby d1_7) (fun _ _ => ⟨rfl, e1, (by decide : 0 + 0 ≤ _), (by decide : 0 + 0 ≤ _)⟩)
  dsimp only [Pt.U, Pt.locs, Pt.cells, Pt.slots] at X3 l3 y3 z3 st3 hQ3
  subst l3 y3 z3
  obtain ⟨rfl, N3q, e3⟩ := hQ3
  have N3 := Fr.app N0 N3q
  have hd10_4 : ¬ ((if (255 : Int32) < p0 then (0 : Int32) else (1 : Int32)) = (0 : Int32)) := by (rw [if_neg hch]; decide)
  obtain ⟨T5, h5, X5, e5, E5, A5, D5, -, st5⟩ := newO X3 hx hZ hown (hw _ (List.mem_of_getElem? (i := 9) rfl)) (hw _ (List.mem_of_getElem? (i := 10) rfl)) (hw _ (List.mem_of_getElem? (i := 2) rfl)) e3 (g := (mkF m 13 #[.val (.int p0)] [])) rfl (hb hby d1_13) (by decide) (by decide)
  obtain ⟨b5, g5⟩ : ∃ z, z = h0.size := ⟨_, rfl⟩
  rw [← g5] at A5 D5 st5
  have gnb5 : n0 ≤ b5 := Nat.le_trans Z0 (Nat.le_of_eq g5.symm)
  have Z5 : n0 ≤ h5.size := Nat.le_trans Z0 E5.1
  have szb5 : h0.size ≤ b5 := Nat.le_trans (Keep.refl h0 []).1 (Nat.le_of_eq g5.symm)
  have Kp5 := (Keep.refl h0 []).ext E5
  have F5_value : Fld Z h5 b5 "java/lang/String" "value" "[B" .null := D5 (Or.inr (hw _ (List.mem_of_getElem? (i := 23) rfl))) (ty := (.array .byte)) (by decide)
  have F5_coder : Fld Z h5 b5 "java/lang/String" "coder" "B" (.int (0 : Int32)) := D5 (Or.inr (hw _ (List.mem_of_getElem? (i := 25) rfl))) (ty := .byte) (by decide)
  obtain ⟨_, _, ⟨T6, L6, k6, n6⟩, -, X6, ⟨Lc6, hQ6, l6, y6, z6⟩, st6⟩ := Jvm.LawKit.callS X5 hx (y := (⟨"java/lang/StringLatin1", "toBytes", "(C)[B"⟩ : MethodName)) hown (mvT hZ (hw _ (List.mem_of_getElem? (i := 11) rfl))) (mvT hZ (hw _ (List.mem_of_getElem? (i := 12) rfl))) (mvT hZ (hw _ (List.mem_of_getElem? (i := 7) rfl))) (mvT hZ (hw _ (List.mem_of_getElem? (i := 13) rfl))) (by decide) (backOf (W := 2) (rm3 l Z a0 hw [] p0 h5 n0 Z5 ) hZ (hw _ (List.mem_of_getElem? (i := 13) rfl)) (hw _ (List.mem_of_getElem? (i := 7) rfl)) (by decide) (by decide)) (g := (mkF m 18 #[.val (.int p0)] [(.int p0), (.ref b5), (.ref b5)])) rfl (by rw [hml]; rfl) (argsL := [(.int p0)]) (rest := [(.ref b5), (.ref b5)]) (lenOf pd_1 rfl) rfl (by show 2 * 0 + _ ≤ _; exact Nat.le_of_eq rfl) (hb hby d1_18) (fun _ _ => ⟨rfl, e5, (by decide : 1 + 1 ≤ _), (by decide : 4 + 1 ≤ _)⟩)
  dsimp only [Pt.U, Pt.locs, Pt.cells, Pt.slots] at X6 l6 y6 z6 st6 hQ6
  subst l6 y6 z6
  obtain ⟨b6, rfl, N6q, K6q⟩ := hQ6
  have N6 := Fr.app N3 N6q
  have Z6 : n0 ≤ T6.heap.size := Nat.le_trans Z5 K6q.1
  have Kp6 := Kp5.trans K6q (fun x hx => nomatch hx)
  obtain ⟨_, _, ⟨T7, L7, k7, n7⟩, -, X7, ⟨Lc7, hQ7, l7, y7, z7⟩, st7⟩ := X6.specialBack hx (y := (⟨"java/lang/String", "<init>", "([BB)V"⟩ : MethodName)) rfl hown (mvT hZ (hw _ (List.mem_of_getElem? (i := 15) rfl))) (mvT hZ (hw _ (List.mem_of_getElem? (i := 16) rfl))) (mvT hZ (hw _ (List.mem_of_getElem? (i := 18) rfl))) (by decide) (backOf (W := 1) (rm4 l Z a0 hw [] b5 b6 (0 : Int32) T6.heap n0 Z6 (A5.keep K6q) gnb5 (F5_value.keep K6q (by simp)) (F5_coder.keep K6q (by simp))) hZ (hw _ (List.mem_of_getElem? (i := 18) rfl)) (hw _ (List.mem_of_getElem? (i := 2) rfl)) (by decide) (by decide)) (g := (mkF m 22 #[.val (.int p0)] [(.int (0 : Int32)), (.ref b6), (.ref b5), (.ref b5)])) rfl (by rw [hml]; rfl) (Steps.refl _) (a := b5) (argsL := [(.ref b6), (.int (0 : Int32))]) (rest := [(.ref b5)]) (lenOf pd_2 rfl) rfl (by show 2 * 0 + _ ≤ _; exact Nat.le_of_eq rfl) (hb hby d1_22) (fun _ _ => ⟨rfl, rfl, (by decide : 2 + 0 ≤ _), (by decide : 5 + 0 ≤ _)⟩)
  dsimp only [Pt.U, Pt.locs, Pt.cells, Pt.slots] at X7 l7 y7 z7 st7 hQ7
  subst l7 y7 z7
  obtain ⟨rfl, N7q, K7q⟩ := hQ7
  have N7 := Fr.app N6 N7q
  have Z7 : n0 ≤ T7.heap.size := Nat.le_trans Z6 K7q.1
  have Kp7 := Kp6.trans K7q (fun x hx => Or.inr (by cases List.mem_singleton.mp hx; exact szb5))
  obtain ⟨fs, hr, hrun, hended, hW, hsame⟩ := X7.leave (v := some (.ref b5)) (fun h => by rw [Bd.returns] at h; cases h)
  refine ⟨_, _, ?_, hrun, hended, _, _, rfl, ?_, ⟨_, rfl⟩, hW, hsame.mono (by decide) (by decide)⟩
  · show Steps p.tables e below (s₁.setTop (mkF m 0 #[.val (.int p0)] [])) _
    refine st1 _ ?_
    show Steps p.tables e below (T1.setTop (mkF m 3 #[.val (.int p0)] [(.int cs)])) _
    refine XS.ifNo X1.here hx rfl (hb hby d1_3) rfl ((if0 _ _).trans (feq hd3_2).1) ?_
    show Steps p.tables e below (T1.setTop (mkF m 6 #[.val (.int p0)] [])) _
    refine XS.iloadN X1.here hx rfl (hb hby d1_6) rfl ?_
    show Steps p.tables e below (T1.setTop (mkF m 7 #[.val (.int p0)] [(.int p0)])) _
    refine st3 _ ?_
    show Steps p.tables e below (T3.setTop (mkF m 10 #[.val (.int p0)] [(.int (if (255 : Int32) < p0 then (0 : Int32) else (1 : Int32)))])) _
    refine XS.ifNo X3.here hx rfl (hb hby d1_10) rfl ((if0 _ _).trans (feq hd10_4).1) ?_
    show Steps p.tables e below (T3.setTop (mkF m 13 #[.val (.int p0)] [])) _
    refine st5 _ ?_
    show Steps p.tables e below (T5.setTop (mkF m 16 #[.val (.int p0)] [(.ref b5)])) _
    refine XS.dup X5.here hx rfl (hb hby d1_16) rfl rfl ?_
    show Steps p.tables e below (T5.setTop (mkF m 17 #[.val (.int p0)] [(.ref b5), (.ref b5)])) _
    refine XS.iloadN X5.here hx rfl (hb hby d1_17) rfl ?_
    show Steps p.tables e below (T5.setTop (mkF m 18 #[.val (.int p0)] [(.int p0), (.ref b5), (.ref b5)])) _
    refine st6 _ ?_
    show Steps p.tables e below (T6.setTop (mkF m 21 #[.val (.int p0)] [(.ref b6), (.ref b5), (.ref b5)])) _
    refine XS.iconst X6.here hx rfl (hb hby d1_21) ?_
    show Steps p.tables e below (T6.setTop (mkF m 22 #[.val (.int p0)] [(.int (0 : Int32)), (.ref b6), (.ref b5), (.ref b5)])) _
    refine st7.trans ?_
    show Steps p.tables e below (T7.setTop (mkF m 25 #[.val (.int p0)] [(.ref b5)])) _
    jvm_step X7.here [X7.here.top, hx, (hb hby d1_25), X7.method', Bd.returns, Value.isRef, FieldType.isReference]
    first | (intro acts; rw [hr _ acts rfl rfl rfl]) | rw [hr _ _ rfl rfl rfl]
    exact Steps.refl _
  · show Q1 Z p0 cs h0 n0 _ T7.heap _
    exact ⟨b5, rfl, N7, Kp7⟩
theorem d6_0 : decode prog_33_method_1_code 0 = .ok (.aload_n 0, 1) := by decide +kernel
theorem d6_1 : decode prog_33_method_1_code 1 = .ok (.invokespecial 1, 3) := by decide +kernel
theorem d6_4 : decode prog_33_method_1_code 4 = .ok (.aload_n 0, 1) := by decide +kernel
theorem d6_5 : decode prog_33_method_1_code 5 = .ok (.iload_n 1, 1) := by decide +kernel
theorem d6_6 : decode prog_33_method_1_code 6 = .ok (.putfield 7, 3) := by decide +kernel
theorem d6_9 : decode prog_33_method_1_code 9 = .ok (.aload_n 0, 1) := by decide +kernel
theorem d6_10 : decode prog_33_method_1_code 10 = .ok (.aload_n 2, 1) := by decide +kernel
theorem d6_11 : decode prog_33_method_1_code 11 = .ok (.putfield 13, 3) := by decide +kernel
theorem d6_14 : decode prog_33_method_1_code 14 = .ok (.aload_n 0, 1) := by decide +kernel
theorem d6_15 : decode prog_33_method_1_code 15 = .ok (.iload_n 3, 1) := by decide +kernel
theorem d6_16 : decode prog_33_method_1_code 16 = .ok (.putfield 17, 3) := by decide +kernel
theorem d6_19 : decode prog_33_method_1_code 19 = .ok (.return_, 1) := by decide +kernel
theorem pn_6 : plainName "com/example/formula_to_count/formulatocount/FirstOrderCnf$Variable" = true := by first | (simp [plainName, overriddenIn]; done) | decide +kernel
theorem pd_3 : parseMethodDescriptor "()V" = some ⟨[], none⟩ := by decide +kernel
theorem ef_6 (m : MethodId) (u0 : Addr) (p1 : Int32) (u2 : Addr) (p3 : Int32)  : entryFrame m #[(.ref u0), (.int p1), (.ref u2), (.int p3)] 4 = mkF m 0 #[.val (.ref u0), .val (.int p1), .val (.ref u2), .val (.int p3)] [] := by first | (simp [entryFrame, mkF, argsToLocals, Value.category]; done) | rfl
def Q6 (Z : State) (u0 : Addr) (p1 : Int32) (u2 : Addr) (p3 : Int32) (h0 : Heap) (n0 : Nat) (v : Option Value) (h : Heap) (L : List Loc) : Prop := v = none ∧ Fr n0 L ∧ Keep h0 h [u0] ∧ Exa Z h u0 "com/example/formula_to_count/formulatocount/FirstOrderCnf$Variable" ∧ Fld Z h u0 "com/example/formula_to_count/formulatocount/FirstOrderCnf$Variable" "element" "I" (.int p3)
set_option maxRecDepth 65536 in
set_option maxHeartbeats 40000000 in
theorem rm6 (l : Launch) (Z : State) (a0 : Array Value) (hw : ∀ d ∈ tables_1, d.before a0 Z = true) (ws : List Jvm.Cond) (u0 : Addr) (p1 : Int32) (u2 : Addr) (p3 : Int32) (h0 : Heap) (n0 : Nat) (Z0 : n0 ≤ h0.size) (E0 : Exa Z h0 u0 "com/example/formula_to_count/formulatocount/FirstOrderCnf$Variable") (g0 : n0 ≤ u0) (F_id : Fld Z h0 u0 "com/example/formula_to_count/formulatocount/FirstOrderCnf$Variable" "id" "I" (.int (0 : Int32))) (F_domain : Fld Z h0 u0 "com/example/formula_to_count/formulatocount/FirstOrderCnf$Variable" "domain" "Ljava/lang/String;" .null) (F_element : Fld Z h0 u0 "com/example/formula_to_count/formulatocount/FirstOrderCnf$Variable" "element" "I" (.int (0 : Int32))) :
    MetFree l (⟨"com/example/formula_to_count/formulatocount/FirstOrderCnf$Variable", "<init>", "(ILjava/lang/String;I)V"⟩ : MethodName) (head1 (Jvm.Cond.code (⟨"com/example/formula_to_count/formulatocount/FirstOrderCnf$Variable", "<init>", "(ILjava/lang/String;I)V"⟩ : MethodName) prog_33_method_1_code 4 none :: ws) ({ frames := 2, cells := 0, slots := 0, locals := 24 } : Room)) (fun a U => a = #[(.ref u0), (.int p1), (.ref u2), (.int p3)] ∧ Z.Warmed39 U.vm ∧ U.heap = h0) (fun _ _ _ _ _ => True) (fun _ U o U' => ∃ v L, o = .returned v ∧ Q6 Z u0 p1 u2 p3 h0 n0 v U'.heap L ∧ FrameEnd U o U' L ({ frames := 2, cells := 0, slots := 0, locals := 24 } : Room).cells ({ frames := 2, cells := 0, slots := 0, locals := 24 } : Room).slots) := by
  refine MetFree.of_bodySF (plainFor_of_name pn_6) hisR ?_
  intro p e s m args below meth c s₁ Bd hml0 hP hK
  obtain ⟨rfl, hZ, hh⟩ := hP
  have hx := Bd.exec
  have hby := Bd.bytes
  have hml : c.maxLocals = 4 := hml0
  have hown : s.vm.findClass "com/example/formula_to_count/formulatocount/FirstOrderCnf$Variable" = some m.cls := findClass_of_methodNamed Bd.named
  have hnm := (name_of_methodNamed Bd.named Bd.method).1
  have X0 : Stand p l e ({ frames := 2, cells := 0, slots := 0, locals := 24 } : Room) s m #[(.ref u0), (.int p1), (.ref u2), (.int p3)] below meth c s₁ [] 0 0 := Stand.of_body Bd
  have e0 : s₁.heap = h0 := by rw [← hh, Bd.state]; rfl
  have N0 := Fr.nil n0
  have pre0 : ∀ t, Steps p.tables e below (s₁.setTop (mkF m 0 #[.val (.ref u0), .val (.int p1), .val (.ref u2), .val (.int p3)] [])) t → Steps p.tables e below (s₁.setTop (entryFrame m #[(.ref u0), (.int p1), (.ref u2), (.int p3)] 4)) t := fun t k => castTop (ef_6 m u0 p1 u2 p3) k
  show Done p e below _ _
  refine Done.of ?_ pre0
  obtain ⟨_, _, ⟨T1, L1, k1, n1⟩, -, X1, ⟨Lc1, hQ1, l1, y1, z1⟩, st1⟩ := X0.specialBack hx (y := (⟨"java/lang/Record", "<init>", "()V"⟩ : MethodName)) rfl hown (mvT hZ (hw _ (List.mem_of_getElem? (i := 33) rfl))) (mvT hZ (hw _ (List.mem_of_getElem? (i := 34) rfl))) (mvT hZ (hw _ (List.mem_of_getElem? (i := 37) rfl))) (by decide) (backOf (W := 0) (rm7 l Z a0 hw [] u0 h0 n0 Z0 ) hZ (hw _ (List.mem_of_getElem? (i := 37) rfl)) (hw _ (List.mem_of_getElem? (i := 36) rfl)) (by decide) (by decide)) (g := (mkF m 1 #[.val (.ref u0), .val (.int p1), .val (.ref u2), .val (.int p3)] [(.ref u0)])) rfl (by rw [hml]; rfl) (Steps.refl _) (a := u0) (argsL := []) (rest := []) (lenOf pd_3 rfl) rfl (by show 2 * 0 + _ ≤ _; exact Nat.le_of_eq rfl) (hb hby d6_1) (fun _ _ => ⟨rfl, e0, (by decide : 0 + 0 ≤ _), (by decide : 0 + 0 ≤ _)⟩)
  dsimp only [Pt.U, Pt.locs, Pt.cells, Pt.slots] at X1 l1 y1 z1 st1 hQ1
  subst l1 y1 z1
  obtain ⟨rfl, N1q, e1⟩ := hQ1
  have N1 := Fr.app N0 N1q
  obtain ⟨T2, h2, X2, e2, W2, st2⟩ := putF X1 hx hZ hown (host := "") (Or.inl (hw _ (List.mem_of_getElem? (i := 39) rfl))) Via.refl e1 F_id E0 (Or.inr ⟨(hw _ (List.mem_of_getElem? (i := 40) rfl)), rfl, hnm⟩) (hw _ (List.mem_of_getElem? (i := 28) rfl)) (ty := .int) (by decide) rfl rfl (g := (mkF m 6 #[.val (.ref u0), .val (.int p1), .val (.ref u2), .val (.int p3)] [(.int p1), (.ref u0)])) rfl rfl (hb hby d6_6)
  have Fw2 := Fld.same W2 F_id
  have N2 := Fr.snoc X2 N1 g0
  have Z2 : n0 ≤ h2.size := Nat.le_trans Z0 (Nat.le_of_eq W2.size.symm)
  have Kp2 := (Keep.refl h0 [u0]).wr W2 (Or.inl (List.mem_of_getElem? (i := 0) rfl))
  obtain ⟨T3, h3, X3, e3, W3, st3⟩ := putF X2 hx hZ hown (host := "") (Or.inl (hw _ (List.mem_of_getElem? (i := 41) rfl))) Via.refl e2 (F_domain.other W2 (Or.inr (slot_ne (Or.inr (hw _ (List.mem_of_getElem? (i := 42) rfl))) (Or.inr (hw _ (List.mem_of_getElem? (i := 40) rfl))) (by decide) (t := (.object "java/lang/String")) (t' := .int) (by decide) (by decide)))) (E0.wr W2) (Or.inr ⟨(hw _ (List.mem_of_getElem? (i := 42) rfl)), rfl, hnm⟩) (hw _ (List.mem_of_getElem? (i := 28) rfl)) (ty := (.object "java/lang/String")) (by decide) rfl rfl (g := (mkF m 11 #[.val (.ref u0), .val (.int p1), .val (.ref u2), .val (.int p3)] [(.ref u2), (.ref u0)])) rfl rfl (hb hby d6_11)
  have Fw3 := Fld.same W3 (F_domain.other W2 (Or.inr (slot_ne (Or.inr (hw _ (List.mem_of_getElem? (i := 42) rfl))) (Or.inr (hw _ (List.mem_of_getElem? (i := 40) rfl))) (by decide) (t := (.object "java/lang/String")) (t' := .int) (by decide) (by decide))))
  have N3 := Fr.snoc X3 N2 g0
  have Z3 : n0 ≤ h3.size := Nat.le_trans Z2 (Nat.le_of_eq W3.size.symm)
  have Kp3 := Kp2.wr W3 (Or.inl (List.mem_of_getElem? (i := 0) rfl))
  obtain ⟨T4, h4, X4, e4, W4, st4⟩ := putF X3 hx hZ hown (host := "") (Or.inl (hw _ (List.mem_of_getElem? (i := 43) rfl))) Via.refl e3 ((F_element.other W2 (Or.inr (slot_ne (Or.inr (hw _ (List.mem_of_getElem? (i := 44) rfl))) (Or.inr (hw _ (List.mem_of_getElem? (i := 40) rfl))) (by decide) (t := .int) (t' := .int) (by decide) (by decide)))).other W3 (Or.inr (slot_ne (Or.inr (hw _ (List.mem_of_getElem? (i := 44) rfl))) (Or.inr (hw _ (List.mem_of_getElem? (i := 42) rfl))) (by decide) (t := .int) (t' := (.object "java/lang/String")) (by decide) (by decide)))) ((E0.wr W2).wr W3) (Or.inr ⟨(hw _ (List.mem_of_getElem? (i := 44) rfl)), rfl, hnm⟩) (hw _ (List.mem_of_getElem? (i := 28) rfl)) (ty := .int) (by decide) rfl rfl (g := (mkF m 16 #[.val (.ref u0), .val (.int p1), .val (.ref u2), .val (.int p3)] [(.int p3), (.ref u0)])) rfl rfl (hb hby d6_16)
  have Fw4 := Fld.same W4 ((F_element.other W2 (Or.inr (slot_ne (Or.inr (hw _ (List.mem_of_getElem? (i := 44) rfl))) (Or.inr (hw _ (List.mem_of_getElem? (i := 40) rfl))) (by decide) (t := .int) (t' := .int) (by decide) (by decide)))).other W3 (Or.inr (slot_ne (Or.inr (hw _ (List.mem_of_getElem? (i := 44) rfl))) (Or.inr (hw _ (List.mem_of_getElem? (i := 42) rfl))) (by decide) (t := .int) (t' := (.object "java/lang/String")) (by decide) (by decide))))
  have N4 := Fr.snoc X4 N3 g0
  have Z4 : n0 ≤ h4.size := Nat.le_trans Z3 (Nat.le_of_eq W4.size.symm)
  have Kp4 := Kp3.wr W4 (Or.inl (List.mem_of_getElem? (i := 0) rfl))
  obtain ⟨fs, hr, hrun, hended, hW, hsame⟩ := X4.leave (v := none) (fun _ => rfl)
  refine ⟨_, _, ?_, hrun, hended, _, _, rfl, ?_, ⟨_, rfl⟩, hW, hsame.mono (by decide) (by decide)⟩
  · show Steps p.tables e below (s₁.setTop (mkF m 0 #[.val (.ref u0), .val (.int p1), .val (.ref u2), .val (.int p3)] [])) _
    refine XS.aloadN X0.here hx rfl (hb hby d6_0) rfl rfl ?_
    show Steps p.tables e below (s₁.setTop (mkF m 1 #[.val (.ref u0), .val (.int p1), .val (.ref u2), .val (.int p3)] [(.ref u0)])) _
    refine st1.trans ?_
    show Steps p.tables e below (T1.setTop (mkF m 4 #[.val (.ref u0), .val (.int p1), .val (.ref u2), .val (.int p3)] [])) _
    refine XS.aloadN X1.here hx rfl (hb hby d6_4) rfl rfl ?_
    show Steps p.tables e below (T1.setTop (mkF m 5 #[.val (.ref u0), .val (.int p1), .val (.ref u2), .val (.int p3)] [(.ref u0)])) _
    refine XS.iloadN X1.here hx rfl (hb hby d6_5) rfl ?_
    show Steps p.tables e below (T1.setTop (mkF m 6 #[.val (.ref u0), .val (.int p1), .val (.ref u2), .val (.int p3)] [(.int p1), (.ref u0)])) _
    refine st2 _ ?_
    show Steps p.tables e below (T2.setTop (mkF m 9 #[.val (.ref u0), .val (.int p1), .val (.ref u2), .val (.int p3)] [])) _
    refine XS.aloadN X2.here hx rfl (hb hby d6_9) rfl rfl ?_
    show Steps p.tables e below (T2.setTop (mkF m 10 #[.val (.ref u0), .val (.int p1), .val (.ref u2), .val (.int p3)] [(.ref u0)])) _
    refine XS.aloadN X2.here hx rfl (hb hby d6_10) rfl rfl ?_
    show Steps p.tables e below (T2.setTop (mkF m 11 #[.val (.ref u0), .val (.int p1), .val (.ref u2), .val (.int p3)] [(.ref u2), (.ref u0)])) _
    refine st3 _ ?_
    show Steps p.tables e below (T3.setTop (mkF m 14 #[.val (.ref u0), .val (.int p1), .val (.ref u2), .val (.int p3)] [])) _
    refine XS.aloadN X3.here hx rfl (hb hby d6_14) rfl rfl ?_
    show Steps p.tables e below (T3.setTop (mkF m 15 #[.val (.ref u0), .val (.int p1), .val (.ref u2), .val (.int p3)] [(.ref u0)])) _
    refine XS.iloadN X3.here hx rfl (hb hby d6_15) rfl ?_
    show Steps p.tables e below (T3.setTop (mkF m 16 #[.val (.ref u0), .val (.int p1), .val (.ref u2), .val (.int p3)] [(.int p3), (.ref u0)])) _
    refine st4 _ ?_
    show Steps p.tables e below (T4.setTop (mkF m 19 #[.val (.ref u0), .val (.int p1), .val (.ref u2), .val (.int p3)] [])) _
    exact X4.returnOut hx Bd.returns (hb hby d6_19) hr
  · show Q6 Z u0 p1 u2 p3  h0 n0 _ T4.heap _
    rw [e4]
    exact ⟨rfl, N4, Kp4, (((E0.wr W2).wr W3).wr W4), Fw4⟩
theorem d8_0 : decode prog_33_method_4_code 0 = .ok (.aload_n 0, 1) := by decide +kernel
theorem d8_1 : decode prog_33_method_4_code 1 = .ok (.getfield 17, 3) := by decide +kernel
theorem d8_4 : decode prog_33_method_4_code 4 = .ok (.iconst (-1), 1) := by decide +kernel
theorem d8_5 : decode prog_33_method_4_code 5 = .ok (.if_icmp .eq 7, 3) := by decide +kernel
theorem d8_8 : decode prog_33_method_4_code 8 = .ok (.iconst 1, 1) := by decide +kernel
theorem d8_9 : decode prog_33_method_4_code 9 = .ok (.goto 4, 3) := by decide +kernel
theorem d8_12 : decode prog_33_method_4_code 12 = .ok (.iconst 0, 1) := by decide +kernel
theorem d8_13 : decode prog_33_method_4_code 13 = .ok (.ireturn, 1) := by decide +kernel
theorem pn_8 : plainName "com/example/formula_to_count/formulatocount/FirstOrderCnf$Variable" = true := by first | (simp [plainName, overriddenIn]; done) | decide +kernel
theorem ef_8 (m : MethodId) (u0 : Addr)  : entryFrame m #[(.ref u0)] 1 = mkF m 0 #[.val (.ref u0)] [] := by first | (simp [entryFrame, mkF, argsToLocals, Value.category]; done) | rfl
def Q8 (Z : State) (u0 : Addr) (w : Int32) (h0 : Heap) (n0 : Nat) (v : Option Value) (h : Heap) (L : List Loc) : Prop := v = some (.int (if w = (-1 : Int32) then (0 : Int32) else (1 : Int32))) ∧ Fr n0 L ∧ h = h0
set_option maxRecDepth 65536 in
set_option maxHeartbeats 40000000 in
theorem rm8 (l : Launch) (Z : State) (a0 : Array Value) (hw : ∀ d ∈ tables_1, d.before a0 Z = true) (ws : List Jvm.Cond) (u0 : Addr) (w : Int32) (h0 : Heap) (n0 : Nat) (Z0 : n0 ≤ h0.size) (FE : Fld Z h0 u0 "com/example/formula_to_count/formulatocount/FirstOrderCnf$Variable" "element" "I" (.int w)) :
    MetFree l (⟨"com/example/formula_to_count/formulatocount/FirstOrderCnf$Variable", "isNamed", "()Z"⟩ : MethodName) (head1 (Jvm.Cond.code (⟨"com/example/formula_to_count/formulatocount/FirstOrderCnf$Variable", "isNamed", "()Z"⟩ : MethodName) prog_33_method_4_code 1 (some .boolean) :: ws) ({ frames := 0, cells := 0, slots := 0, locals := 0 } : Room)) (fun a U => a = #[(.ref u0)] ∧ Z.Warmed39 U.vm ∧ U.heap = h0) (fun _ _ _ _ _ => True) (fun _ U o U' => ∃ v L, o = .returned v ∧ Q8 Z u0 w h0 n0 v U'.heap L ∧ FrameEnd U o U' L ({ frames := 0, cells := 0, slots := 0, locals := 0 } : Room).cells ({ frames := 0, cells := 0, slots := 0, locals := 0 } : Room).slots) := by
  refine MetFree.of_bodySF (plainFor_of_name pn_8) hisR ?_
  intro p e s m args below meth c s₁ Bd hml0 hP hK
  obtain ⟨rfl, hZ, hh⟩ := hP
  have hx := Bd.exec
  have hby := Bd.bytes
  have hml : c.maxLocals = 1 := hml0
  have hown : s.vm.findClass "com/example/formula_to_count/formulatocount/FirstOrderCnf$Variable" = some m.cls := findClass_of_methodNamed Bd.named
  have hnm := (name_of_methodNamed Bd.named Bd.method).1
  have X0 : Stand p l e ({ frames := 0, cells := 0, slots := 0, locals := 0 } : Room) s m #[(.ref u0)] below meth c s₁ [] 0 0 := Stand.of_body Bd
  have e0 : s₁.heap = h0 := by rw [← hh, Bd.state]; rfl
  have N0 := Fr.nil n0
  have pre0 : ∀ t, Steps p.tables e below (s₁.setTop (mkF m 0 #[.val (.ref u0)] [])) t → Steps p.tables e below (s₁.setTop (entryFrame m #[(.ref u0)] 1)) t := fun t k => castTop (ef_8 m u0) k
  show Done p e below _ _
  refine Done.of ?_ pre0
  obtain ⟨T1, X1, e1, st1⟩ := getF X0 hx hZ hown (host := "") (Or.inl (hw _ (List.mem_of_getElem? (i := 43) rfl))) Via.refl e0 FE (g := (mkF m 1 #[.val (.ref u0)] [(.ref u0)])) rfl rfl (hb hby d8_1)
  have J5_2 : ∀ wj : Int32, wj = (if w = (-1 : Int32) then (0 : Int32) else (1 : Int32)) → ∀ target, Steps p.tables e below (T1.setTop (mkF m 13 #[.val (.ref u0)] [(.int wj)])) target → Steps p.tables e below (T1.setTop (mkF m 5 #[.val (.ref u0)] [(.int (-1 : Int32)), (.int w)])) target := by
    intro wj hw0 target kt
    by_cases hj5 : w = (-1 : Int32)
    · rw [if_pos hj5] at hw0
      show Steps p.tables e below (T1.setTop (mkF m 5 #[.val (.ref u0)] [(.int (-1 : Int32)), (.int w)])) _
      refine XS.icmpYes X1.here hx rfl (pc0 := 5) (pc' := 12) rfl (hb hby d8_5) rfl (teq hj5).1 (by decide) (by decide) ?_
      show Steps p.tables e below (T1.setTop (mkF m 12 #[.val (.ref u0)] [])) _
      refine XS.iconst X1.here hx rfl (hb hby d8_12) ?_
      rw [hw0] at kt
      exact kt
    · rw [if_neg hj5] at hw0
      show Steps p.tables e below (T1.setTop (mkF m 5 #[.val (.ref u0)] [(.int (-1 : Int32)), (.int w)])) _
      refine XS.icmpNo X1.here hx rfl (hb hby d8_5) rfl (feq hj5).1 ?_
      show Steps p.tables e below (T1.setTop (mkF m 8 #[.val (.ref u0)] [])) _
      refine XS.iconst X1.here hx rfl (hb hby d8_8) ?_
      show Steps p.tables e below (T1.setTop (mkF m 9 #[.val (.ref u0)] [(.int (1 : Int32))])) _
      refine XS.goto X1.here hx rfl (pc0 := 9) (pc' := 13) rfl (hb hby d8_9) (by decide) (by decide) ?_
      rw [hw0] at kt
      exact kt
  obtain ⟨fs, hr, hrun, hended, hW, hsame⟩ := X1.leave (v := some (.int (nar .boolean (if w = (-1 : Int32) then (0 : Int32) else (1 : Int32))))) (fun h => by rw [Bd.returns] at h; cases h)
  refine ⟨_, _, ?_, hrun, hended, _, _, rfl, ?_, ⟨_, rfl⟩, hW, hsame.mono (by decide) (by decide)⟩
  · show Steps p.tables e below (s₁.setTop (mkF m 0 #[.val (.ref u0)] [])) _
    refine XS.aloadN X0.here hx rfl (hb hby d8_0) rfl rfl ?_
    show Steps p.tables e below (s₁.setTop (mkF m 1 #[.val (.ref u0)] [(.ref u0)])) _
    refine st1 _ ?_
    show Steps p.tables e below (T1.setTop (mkF m 4 #[.val (.ref u0)] [(.int w)])) _
    refine XS.iconst X1.here hx rfl (hb hby d8_4) ?_
    show Steps p.tables e below (T1.setTop (mkF m 5 #[.val (.ref u0)] [(.int (-1 : Int32)), (.int w)])) _
    refine J5_2 _ rfl _ ?_
    show Steps p.tables e below (T1.setTop (mkF m 13 #[.val (.ref u0)] [(.int (if w = (-1 : Int32) then (0 : Int32) else (1 : Int32)))])) _
    exact retN X1 hx (t := .boolean) Bd.returns (by simp) (hb hby d8_13) hr
  · show Q8 Z u0 w h0 n0 _ T1.heap _
    rw [e1]
    refine ⟨?_, N0, rfl⟩
    ((repeat' split) <;> rfl)
theorem d9_0 : decode prog_33_method_2_code 0 = .ok (.new 8, 3) := by decide +kernel
theorem d9_3 : decode prog_33_method_2_code 3 = .ok (.dup, 1) := by decide +kernel
theorem d9_4 : decode prog_33_method_2_code 4 = .ok (.iload_n 0, 1) := by decide +kernel
theorem d9_5 : decode prog_33_method_2_code 5 = .ok (.aload_n 1, 1) := by decide +kernel
theorem d9_6 : decode prog_33_method_2_code 6 = .ok (.iconst (-1), 1) := by decide +kernel
theorem d9_7 : decode prog_33_method_2_code 7 = .ok (.invokespecial 20, 3) := by decide +kernel
theorem d9_10 : decode prog_33_method_2_code 10 = .ok (.areturn, 1) := by decide +kernel
theorem pn_9 : plainName "com/example/formula_to_count/formulatocount/FirstOrderCnf$Variable" = true := by first | (simp [plainName, overriddenIn]; done) | decide +kernel
theorem pd_4 : parseMethodDescriptor "(ILjava/lang/String;I)V" = some ⟨[.int, (.object "java/lang/String"), .int], none⟩ := by decide +kernel
theorem ef_9 (m : MethodId) (p0 : Int32) (u1 : Addr)  : entryFrame m #[(.int p0), (.ref u1)] 2 = mkF m 0 #[.val (.int p0), .val (.ref u1)] [] := by first | (simp [entryFrame, mkF, argsToLocals, Value.category]; done) | rfl
def Q9 (Z : State) (p0 : Int32) (u1 : Addr) (h0 : Heap) (n0 : Nat) (v : Option Value) (h : Heap) (L : List Loc) : Prop := ∃ b : Addr, v = some (.ref b) ∧ Fr n0 L ∧ Keep h0 h [] ∧ Exa Z h b "com/example/formula_to_count/formulatocount/FirstOrderCnf$Variable" ∧ Fld Z h b "com/example/formula_to_count/formulatocount/FirstOrderCnf$Variable" "element" "I" (.int (-1 : Int32))
set_option maxRecDepth 65536 in
set_option maxHeartbeats 40000000 in
theorem rm9 (l : Launch) (Z : State) (a0 : Array Value) (hw : ∀ d ∈ tables_1, d.before a0 Z = true) (ws : List Jvm.Cond) (p0 : Int32) (u1 : Addr) (h0 : Heap) (n0 : Nat) (Z0 : n0 ≤ h0.size) :
    MetFree l (⟨"com/example/formula_to_count/formulatocount/FirstOrderCnf$Variable", "over", "(ILjava/lang/String;)Lcom/example/formula_to_count/formulatocount/FirstOrderCnf$Variable;"⟩ : MethodName) (head1 (Jvm.Cond.code (⟨"com/example/formula_to_count/formulatocount/FirstOrderCnf$Variable", "over", "(ILjava/lang/String;)Lcom/example/formula_to_count/formulatocount/FirstOrderCnf$Variable;"⟩ : MethodName) prog_33_method_2_code 2 (some (.object "com/example/formula_to_count/formulatocount/FirstOrderCnf$Variable")) :: ws) ({ frames := 3, cells := 1, slots := 3, locals := 40 } : Room)) (fun a U => a = #[(.int p0), (.ref u1)] ∧ Z.Warmed39 U.vm ∧ U.heap = h0) (fun _ _ _ _ _ => True) (fun _ U o U' => ∃ v L, o = .returned v ∧ Q9 Z p0 u1 h0 n0 v U'.heap L ∧ FrameEnd U o U' L ({ frames := 3, cells := 1, slots := 3, locals := 40 } : Room).cells ({ frames := 3, cells := 1, slots := 3, locals := 40 } : Room).slots) := by
  refine MetFree.of_bodySF (plainFor_of_name pn_9) hisR ?_
  intro p e s m args below meth c s₁ Bd hml0 hP hK
  obtain ⟨rfl, hZ, hh⟩ := hP
  have hx := Bd.exec
  have hby := Bd.bytes
  have hml : c.maxLocals = 2 := hml0
  have hown : s.vm.findClass "com/example/formula_to_count/formulatocount/FirstOrderCnf$Variable" = some m.cls := findClass_of_methodNamed Bd.named
  have hnm := (name_of_methodNamed Bd.named Bd.method).1
  have X0 : Stand p l e ({ frames := 3, cells := 1, slots := 3, locals := 40 } : Room) s m #[(.int p0), (.ref u1)] below meth c s₁ [] 0 0 := Stand.of_body Bd
  have e0 : s₁.heap = h0 := by rw [← hh, Bd.state]; rfl
  have N0 := Fr.nil n0
  have pre0 : ∀ t, Steps p.tables e below (s₁.setTop (mkF m 0 #[.val (.int p0), .val (.ref u1)] [])) t → Steps p.tables e below (s₁.setTop (entryFrame m #[(.int p0), (.ref u1)] 2)) t := fun t k => castTop (ef_9 m p0 u1) k
  show Done p e below _ _
  refine Done.of ?_ pre0
  obtain ⟨T1, h1, X1, e1, E1, A1, D1, -, st1⟩ := newO X0 hx hZ hown (hw _ (List.mem_of_getElem? (i := 53) rfl)) (hw _ (List.mem_of_getElem? (i := 28) rfl)) (hw _ (List.mem_of_getElem? (i := 29) rfl)) e0 (g := (mkF m 0 #[.val (.int p0), .val (.ref u1)] [])) rfl (hb hby d9_0) (by decide) (by decide)
  obtain ⟨b1, g1⟩ : ∃ z, z = h0.size := ⟨_, rfl⟩
  rw [← g1] at A1 D1 st1
  have gnb1 : n0 ≤ b1 := Nat.le_trans Z0 (Nat.le_of_eq g1.symm)
  have Z1 : n0 ≤ h1.size := Nat.le_trans Z0 E1.1
  have szb1 : h0.size ≤ b1 := Nat.le_trans (Keep.refl h0 []).1 (Nat.le_of_eq g1.symm)
  have Kp1 := (Keep.refl h0 []).ext E1
  have F1_id : Fld Z h1 b1 "com/example/formula_to_count/formulatocount/FirstOrderCnf$Variable" "id" "I" (.int (0 : Int32)) := D1 (Or.inr (hw _ (List.mem_of_getElem? (i := 40) rfl))) (ty := .int) (by decide)
  have F1_domain : Fld Z h1 b1 "com/example/formula_to_count/formulatocount/FirstOrderCnf$Variable" "domain" "Ljava/lang/String;" .null := D1 (Or.inr (hw _ (List.mem_of_getElem? (i := 42) rfl))) (ty := (.object "java/lang/String")) (by decide)
  have F1_element : Fld Z h1 b1 "com/example/formula_to_count/formulatocount/FirstOrderCnf$Variable" "element" "I" (.int (0 : Int32)) := D1 (Or.inr (hw _ (List.mem_of_getElem? (i := 44) rfl))) (ty := .int) (by decide)
  obtain ⟨_, _, ⟨T2, L2, k2, n2⟩, -, X2, ⟨Lc2, hQ2, l2, y2, z2⟩, st2⟩ := X1.specialBack hx (y := (⟨"com/example/formula_to_count/formulatocount/FirstOrderCnf$Variable", "<init>", "(ILjava/lang/String;I)V"⟩ : MethodName)) rfl hown (mvT hZ (hw _ (List.mem_of_getElem? (i := 54) rfl))) (mvT hZ (hw _ (List.mem_of_getElem? (i := 31) rfl))) (mvT hZ (hw _ (List.mem_of_getElem? (i := 32) rfl))) (by decide) (backOf (W := 1) (rm6 l Z a0 hw [] b1 p0 u1 (-1 : Int32) h1 n0 Z1 A1 gnb1 F1_id F1_domain F1_element) hZ (hw _ (List.mem_of_getElem? (i := 32) rfl)) (hw _ (List.mem_of_getElem? (i := 29) rfl)) (by decide) (by decide)) (g := (mkF m 7 #[.val (.int p0), .val (.ref u1)] [(.int (-1 : Int32)), (.ref u1), (.int p0), (.ref b1), (.ref b1)])) rfl (by rw [hml]; rfl) (Steps.refl _) (a := b1) (argsL := [(.int p0), (.ref u1), (.int (-1 : Int32))]) (rest := [(.ref b1)]) (lenOf pd_4 rfl) rfl (by show 2 * 0 + _ ≤ _; exact Nat.le_of_eq rfl) (hb hby d9_7) (fun _ _ => ⟨rfl, e1, (by decide : 1 + 0 ≤ _), (by decide : 3 + 0 ≤ _)⟩)
  dsimp only [Pt.U, Pt.locs, Pt.cells, Pt.slots] at X2 l2 y2 z2 st2 hQ2
  subst l2 y2 z2
  obtain ⟨rfl, N2q, K2q, EI2, FI2⟩ := hQ2
  have N2 := Fr.app N0 N2q
  have Z2 : n0 ≤ T2.heap.size := Nat.le_trans Z1 K2q.1
  have Kp2 := Kp1.trans K2q (fun x hx => Or.inr (by cases List.mem_singleton.mp hx; exact szb1))
  obtain ⟨fs, hr, hrun, hended, hW, hsame⟩ := X2.leave (v := some (.ref b1)) (fun h => by rw [Bd.returns] at h; cases h)
  refine ⟨_, _, ?_, hrun, hended, _, _, rfl, ?_, ⟨_, rfl⟩, hW, hsame.mono (by decide) (by decide)⟩
  · show Steps p.tables e below (s₁.setTop (mkF m 0 #[.val (.int p0), .val (.ref u1)] [])) _
    refine st1 _ ?_
    show Steps p.tables e below (T1.setTop (mkF m 3 #[.val (.int p0), .val (.ref u1)] [(.ref b1)])) _
    refine XS.dup X1.here hx rfl (hb hby d9_3) rfl rfl ?_
    show Steps p.tables e below (T1.setTop (mkF m 4 #[.val (.int p0), .val (.ref u1)] [(.ref b1), (.ref b1)])) _
    refine XS.iloadN X1.here hx rfl (hb hby d9_4) rfl ?_
    show Steps p.tables e below (T1.setTop (mkF m 5 #[.val (.int p0), .val (.ref u1)] [(.int p0), (.ref b1), (.ref b1)])) _
    refine XS.aloadN X1.here hx rfl (hb hby d9_5) rfl rfl ?_
    show Steps p.tables e below (T1.setTop (mkF m 6 #[.val (.int p0), .val (.ref u1)] [(.ref u1), (.int p0), (.ref b1), (.ref b1)])) _
    refine XS.iconst X1.here hx rfl (hb hby d9_6) ?_
    show Steps p.tables e below (T1.setTop (mkF m 7 #[.val (.int p0), .val (.ref u1)] [(.int (-1 : Int32)), (.ref u1), (.int p0), (.ref b1), (.ref b1)])) _
    refine st2.trans ?_
    show Steps p.tables e below (T2.setTop (mkF m 10 #[.val (.int p0), .val (.ref u1)] [(.ref b1)])) _
    jvm_step X2.here [X2.here.top, hx, (hb hby d9_10), X2.method', Bd.returns, Value.isRef, FieldType.isReference]
    first | (intro acts; rw [hr _ acts rfl rfl rfl]) | rw [hr _ _ rfl rfl rfl]
    exact Steps.refl _
  · show Q9 Z p0 u1  h0 n0 _ T2.heap _
    exact ⟨b1, rfl, N2, Kp2, EI2, FI2⟩
theorem d10_0 : decode prog_33_method_3_code 0 = .ok (.new 8, 3) := by decide +kernel
theorem d10_3 : decode prog_33_method_3_code 3 = .ok (.dup, 1) := by decide +kernel
theorem d10_4 : decode prog_33_method_3_code 4 = .ok (.iconst (-1), 1) := by decide +kernel
theorem d10_5 : decode prog_33_method_3_code 5 = .ok (.aload_n 0, 1) := by decide +kernel
theorem d10_6 : decode prog_33_method_3_code 6 = .ok (.iload_n 1, 1) := by decide +kernel
theorem d10_7 : decode prog_33_method_3_code 7 = .ok (.invokespecial 20, 3) := by decide +kernel
theorem d10_10 : decode prog_33_method_3_code 10 = .ok (.areturn, 1) := by decide +kernel
theorem pn_10 : plainName "com/example/formula_to_count/formulatocount/FirstOrderCnf$Variable" = true := by first | (simp [plainName, overriddenIn]; done) | decide +kernel
theorem ef_10 (m : MethodId) (u0 : Addr) (p1 : Int32)  : entryFrame m #[(.ref u0), (.int p1)] 2 = mkF m 0 #[.val (.ref u0), .val (.int p1)] [] := by first | (simp [entryFrame, mkF, argsToLocals, Value.category]; done) | rfl
def Q10 (Z : State) (u0 : Addr) (p1 : Int32) (h0 : Heap) (n0 : Nat) (v : Option Value) (h : Heap) (L : List Loc) : Prop := ∃ b : Addr, v = some (.ref b) ∧ Fr n0 L ∧ Keep h0 h [] ∧ Exa Z h b "com/example/formula_to_count/formulatocount/FirstOrderCnf$Variable" ∧ Fld Z h b "com/example/formula_to_count/formulatocount/FirstOrderCnf$Variable" "element" "I" (.int p1)
set_option maxRecDepth 65536 in
set_option maxHeartbeats 40000000 in
theorem rm10 (l : Launch) (Z : State) (a0 : Array Value) (hw : ∀ d ∈ tables_1, d.before a0 Z = true) (ws : List Jvm.Cond) (u0 : Addr) (p1 : Int32) (h0 : Heap) (n0 : Nat) (Z0 : n0 ≤ h0.size) :
    MetFree l (⟨"com/example/formula_to_count/formulatocount/FirstOrderCnf$Variable", "named", "(Ljava/lang/String;I)Lcom/example/formula_to_count/formulatocount/FirstOrderCnf$Variable;"⟩ : MethodName) (head1 (Jvm.Cond.code (⟨"com/example/formula_to_count/formulatocount/FirstOrderCnf$Variable", "named", "(Ljava/lang/String;I)Lcom/example/formula_to_count/formulatocount/FirstOrderCnf$Variable;"⟩ : MethodName) prog_33_method_3_code 2 (some (.object "com/example/formula_to_count/formulatocount/FirstOrderCnf$Variable")) :: ws) ({ frames := 3, cells := 1, slots := 3, locals := 40 } : Room)) (fun a U => a = #[(.ref u0), (.int p1)] ∧ Z.Warmed39 U.vm ∧ U.heap = h0) (fun _ _ _ _ _ => True) (fun _ U o U' => ∃ v L, o = .returned v ∧ Q10 Z u0 p1 h0 n0 v U'.heap L ∧ FrameEnd U o U' L ({ frames := 3, cells := 1, slots := 3, locals := 40 } : Room).cells ({ frames := 3, cells := 1, slots := 3, locals := 40 } : Room).slots) := by
  refine MetFree.of_bodySF (plainFor_of_name pn_10) hisR ?_
  intro p e s m args below meth c s₁ Bd hml0 hP hK
  obtain ⟨rfl, hZ, hh⟩ := hP
  have hx := Bd.exec
  have hby := Bd.bytes
  have hml : c.maxLocals = 2 := hml0
  have hown : s.vm.findClass "com/example/formula_to_count/formulatocount/FirstOrderCnf$Variable" = some m.cls := findClass_of_methodNamed Bd.named
  have hnm := (name_of_methodNamed Bd.named Bd.method).1
  have X0 : Stand p l e ({ frames := 3, cells := 1, slots := 3, locals := 40 } : Room) s m #[(.ref u0), (.int p1)] below meth c s₁ [] 0 0 := Stand.of_body Bd
  have e0 : s₁.heap = h0 := by rw [← hh, Bd.state]; rfl
  have N0 := Fr.nil n0
  have pre0 : ∀ t, Steps p.tables e below (s₁.setTop (mkF m 0 #[.val (.ref u0), .val (.int p1)] [])) t → Steps p.tables e below (s₁.setTop (entryFrame m #[(.ref u0), (.int p1)] 2)) t := fun t k => castTop (ef_10 m u0 p1) k
  show Done p e below _ _
  refine Done.of ?_ pre0
  obtain ⟨T1, h1, X1, e1, E1, A1, D1, -, st1⟩ := newO X0 hx hZ hown (hw _ (List.mem_of_getElem? (i := 53) rfl)) (hw _ (List.mem_of_getElem? (i := 28) rfl)) (hw _ (List.mem_of_getElem? (i := 29) rfl)) e0 (g := (mkF m 0 #[.val (.ref u0), .val (.int p1)] [])) rfl (hb hby d10_0) (by decide) (by decide)
  obtain ⟨b1, g1⟩ : ∃ z, z = h0.size := ⟨_, rfl⟩
  rw [← g1] at A1 D1 st1
  have gnb1 : n0 ≤ b1 := Nat.le_trans Z0 (Nat.le_of_eq g1.symm)
  have Z1 : n0 ≤ h1.size := Nat.le_trans Z0 E1.1
  have szb1 : h0.size ≤ b1 := Nat.le_trans (Keep.refl h0 []).1 (Nat.le_of_eq g1.symm)
  have Kp1 := (Keep.refl h0 []).ext E1
  have F1_id : Fld Z h1 b1 "com/example/formula_to_count/formulatocount/FirstOrderCnf$Variable" "id" "I" (.int (0 : Int32)) := D1 (Or.inr (hw _ (List.mem_of_getElem? (i := 40) rfl))) (ty := .int) (by decide)
  have F1_domain : Fld Z h1 b1 "com/example/formula_to_count/formulatocount/FirstOrderCnf$Variable" "domain" "Ljava/lang/String;" .null := D1 (Or.inr (hw _ (List.mem_of_getElem? (i := 42) rfl))) (ty := (.object "java/lang/String")) (by decide)
  have F1_element : Fld Z h1 b1 "com/example/formula_to_count/formulatocount/FirstOrderCnf$Variable" "element" "I" (.int (0 : Int32)) := D1 (Or.inr (hw _ (List.mem_of_getElem? (i := 44) rfl))) (ty := .int) (by decide)
  obtain ⟨_, _, ⟨T2, L2, k2, n2⟩, -, X2, ⟨Lc2, hQ2, l2, y2, z2⟩, st2⟩ := X1.specialBack hx (y := (⟨"com/example/formula_to_count/formulatocount/FirstOrderCnf$Variable", "<init>", "(ILjava/lang/String;I)V"⟩ : MethodName)) rfl hown (mvT hZ (hw _ (List.mem_of_getElem? (i := 54) rfl))) (mvT hZ (hw _ (List.mem_of_getElem? (i := 31) rfl))) (mvT hZ (hw _ (List.mem_of_getElem? (i := 32) rfl))) (by decide) (backOf (W := 1) (rm6 l Z a0 hw [] b1 (-1 : Int32) u0 p1 h1 n0 Z1 A1 gnb1 F1_id F1_domain F1_element) hZ (hw _ (List.mem_of_getElem? (i := 32) rfl)) (hw _ (List.mem_of_getElem? (i := 29) rfl)) (by decide) (by decide)) (g := (mkF m 7 #[.val (.ref u0), .val (.int p1)] [(.int p1), (.ref u0), (.int (-1 : Int32)), (.ref b1), (.ref b1)])) rfl (by rw [hml]; rfl) (Steps.refl _) (a := b1) (argsL := [(.int (-1 : Int32)), (.ref u0), (.int p1)]) (rest := [(.ref b1)]) (lenOf pd_4 rfl) rfl (by show 2 * 0 + _ ≤ _; exact Nat.le_of_eq rfl) (hb hby d10_7) (fun _ _ => ⟨rfl, e1, (by decide : 1 + 0 ≤ _), (by decide : 3 + 0 ≤ _)⟩)
  dsimp only [Pt.U, Pt.locs, Pt.cells, Pt.slots] at X2 l2 y2 z2 st2 hQ2
  subst l2 y2 z2
  obtain ⟨rfl, N2q, K2q, EI2, FI2⟩ := hQ2
  have N2 := Fr.app N0 N2q
  have Z2 : n0 ≤ T2.heap.size := Nat.le_trans Z1 K2q.1
  have Kp2 := Kp1.trans K2q (fun x hx => Or.inr (by cases List.mem_singleton.mp hx; exact szb1))
  obtain ⟨fs, hr, hrun, hended, hW, hsame⟩ := X2.leave (v := some (.ref b1)) (fun h => by rw [Bd.returns] at h; cases h)
  refine ⟨_, _, ?_, hrun, hended, _, _, rfl, ?_, ⟨_, rfl⟩, hW, hsame.mono (by decide) (by decide)⟩
  · show Steps p.tables e below (s₁.setTop (mkF m 0 #[.val (.ref u0), .val (.int p1)] [])) _
    refine st1 _ ?_
    show Steps p.tables e below (T1.setTop (mkF m 3 #[.val (.ref u0), .val (.int p1)] [(.ref b1)])) _
    refine XS.dup X1.here hx rfl (hb hby d10_3) rfl rfl ?_
    show Steps p.tables e below (T1.setTop (mkF m 4 #[.val (.ref u0), .val (.int p1)] [(.ref b1), (.ref b1)])) _
    refine XS.iconst X1.here hx rfl (hb hby d10_4) ?_
    show Steps p.tables e below (T1.setTop (mkF m 5 #[.val (.ref u0), .val (.int p1)] [(.int (-1 : Int32)), (.ref b1), (.ref b1)])) _
    refine XS.aloadN X1.here hx rfl (hb hby d10_5) rfl rfl ?_
    show Steps p.tables e below (T1.setTop (mkF m 6 #[.val (.ref u0), .val (.int p1)] [(.ref u0), (.int (-1 : Int32)), (.ref b1), (.ref b1)])) _
    refine XS.iloadN X1.here hx rfl (hb hby d10_6) rfl ?_
    show Steps p.tables e below (T1.setTop (mkF m 7 #[.val (.ref u0), .val (.int p1)] [(.int p1), (.ref u0), (.int (-1 : Int32)), (.ref b1), (.ref b1)])) _
    refine st2.trans ?_
    show Steps p.tables e below (T2.setTop (mkF m 10 #[.val (.ref u0), .val (.int p1)] [(.ref b1)])) _
    jvm_step X2.here [X2.here.top, hx, (hb hby d10_10), X2.method', Bd.returns, Value.isRef, FieldType.isReference]
    first | (intro acts; rw [hr _ acts rfl rfl rfl]) | rw [hr _ _ rfl rfl rfl]
    exact Steps.refl _
  · show Q10 Z u0 p1  h0 n0 _ T2.heap _
    exact ⟨b1, rfl, N2, Kp2, EI2, FI2⟩
theorem pn_0 : plainName "com/example/formula_to_count/formulatocount/VariableIsNamedPinLaw" = true := by first | (simp [plainName, overriddenIn]; done) | decide +kernel
theorem pd_5 : parseMethodDescriptor "(C)Ljava/lang/String;" = some ⟨[.char], some (.object "java/lang/String")⟩ := by decide +kernel
theorem pd_6 : parseMethodDescriptor "()Z" = some ⟨[], some .boolean⟩ := by decide +kernel
theorem pd_7 : parseMethodDescriptor "(ILjava/lang/String;)Lcom/example/formula_to_count/formulatocount/FirstOrderCnf$Variable;" = some ⟨[.int, (.object "java/lang/String")], some (.object "com/example/formula_to_count/formulatocount/FirstOrderCnf$Variable")⟩ := by decide +kernel
theorem pd_8 : parseMethodDescriptor "(Ljava/lang/String;I)Lcom/example/formula_to_count/formulatocount/FirstOrderCnf$Variable;" = some ⟨[(.object "java/lang/String"), .int], some (.object "com/example/formula_to_count/formulatocount/FirstOrderCnf$Variable")⟩ := by decide +kernel
theorem ef_0 (m : MethodId) (p0 : Int32) (p1 : Int32) (p2 : Int32) (p3 : Int32)  : entryFrame m #[(.int p0), (.int p1), (.int p2), (.int p3)] maxLocals = mkF m 0 #[.val (.int p0), .val (.int p1), .val (.int p2), .val (.int p3), .unset, .unset, .unset, .unset, .unset, .unset] [] := by first | (simp [entryFrame, mkF, argsToLocals, Value.category, maxLocals]; done) | rfl
def Q0 (Z : State) (p0 : Int32) (p1 : Int32) (p2 : Int32) (p3 : Int32) (cs : Int32) (h0 : Heap) (n0 : Nat) (v : Option Value) (h : Heap) (L : List Loc) : Prop := v = some (.int 1) ∧ Fr n0 L
set_option maxRecDepth 65536 in
set_option maxHeartbeats 40000000 in
theorem rm0 (l : Launch) (Z : State) (a0 : Array Value) (hw : ∀ d ∈ tables_1, d.before a0 Z = true) (ws : List Jvm.Cond) (p0 : Int32) (p1 : Int32) (p2 : Int32) (p3 : Int32) (cs : Int32) (h0 : Heap) (n0 : Nat) (Z0 : n0 ≤ h0.size) (SCS : Sta Z h0 "java/lang/String" "COMPACT_STRINGS" "Z" (.int cs)) (hcs : ¬ cs = (0 : Int32)) :
    MetFree l x (head1 (Jvm.Cond.code x code maxLocals ret :: ws) room_1) (fun a U => a = #[(.int p0), (.int p1), (.int p2), (.int p3)] ∧ Z.Warmed39 U.vm ∧ U.heap = h0) (fun _ _ _ _ _ => True) (fun _ U o U' => ∃ v L, o = .returned v ∧ Q0 Z p0 p1 p2 p3 cs h0 n0 v U'.heap L ∧ FrameEnd U o U' L room_1.cells room_1.slots) := by
  refine MetFree.of_bodySF (plainFor_of_name pn_0) hisR ?_
  intro p e s m args below meth c s₁ Bd hml0 hP hK
  obtain ⟨rfl, hZ, hh⟩ := hP
  have hx := Bd.exec
  have hby := Bd.bytes
  have hml : c.maxLocals = 10 := hml0
  have hown : s.vm.findClass "com/example/formula_to_count/formulatocount/VariableIsNamedPinLaw" = some m.cls := findClass_of_methodNamed Bd.named
  have hnm := (name_of_methodNamed Bd.named Bd.method).1
  have X0 : Stand p l e room_1 s m #[(.int p0), (.int p1), (.int p2), (.int p3)] below meth c s₁ [] 0 0 := Stand.of_body Bd
  have e0 : s₁.heap = h0 := by rw [← hh, Bd.state]; rfl
  have N0 := Fr.nil n0
  have pre0 : ∀ t, Steps p.tables e below (s₁.setTop (mkF m 0 #[.val (.int p0), .val (.int p1), .val (.int p2), .val (.int p3), .unset, .unset, .unset, .unset, .unset, .unset] [])) t → Steps p.tables e below (s₁.setTop (entryFrame m #[(.int p0), (.int p1), (.int p2), (.int p3)] maxLocals)) t := fun t k => castTop (ef_0 m p0 p1 p2 p3) k
  show Done p e below _ _
  refine Done.of ?_ pre0
  obtain ⟨_, _, ⟨T1, L1, k1, n1⟩, -, X1, ⟨Lc1, hQ1, l1, y1, z1⟩, st1⟩ := Jvm.LawKit.callS X0 hx (y := (⟨"java/lang/String", "valueOf", "(C)Ljava/lang/String;"⟩ : MethodName)) hown (mvT hZ (hw _ (List.mem_of_getElem? (i := 0) rfl))) (mvT hZ (hw _ (List.mem_of_getElem? (i := 1) rfl))) (mvT hZ (hw _ (List.mem_of_getElem? (i := 2) rfl))) (mvT hZ (hw _ (List.mem_of_getElem? (i := 3) rfl))) (by decide) (backOf (W := 0) (rm1 l Z a0 hw [] ((p2 &&& (255 : Int32)).toUInt32.toUInt16.toUInt32.toInt32) cs h0 n0 Z0 SCS hcs (own_ch p2)) hZ (hw _ (List.mem_of_getElem? (i := 3) rfl)) (hw _ (List.mem_of_getElem? (i := 2) rfl)) (by decide) (by decide)) (g := (mkF m 6 #[.val (.int p0), .val (.int p1), .val (.int p2), .val (.int p3), .unset, .unset, .unset, .unset, .unset, .unset] [(.int ((p2 &&& (255 : Int32)).toUInt32.toUInt16.toUInt32.toInt32))])) rfl (by rw [hml]; rfl) (argsL := [(.int ((p2 &&& (255 : Int32)).toUInt32.toUInt16.toUInt32.toInt32))]) (rest := []) (lenOf pd_5 rfl) rfl (by show 2 * 0 + _ ≤ _; exact Nat.le_of_eq rfl) (hb hby at_6) (fun _ _ => ⟨rfl, e0, (by decide : 0 + 2 ≤ _), (by decide : 0 + 5 ≤ _)⟩)
  dsimp only [Pt.U, Pt.locs, Pt.cells, Pt.slots] at X1 l1 y1 z1 st1 hQ1
  subst l1 y1 z1
  obtain ⟨b1, rfl, N1q, K1q⟩ := hQ1
  have N1 := Fr.app N0 N1q
  have Z1 : n0 ≤ T1.heap.size := Nat.le_trans Z0 K1q.1
  have K2 : ∀ target, Steps p.tables e below (T1.setTop (mkF m 14 #[.val (.int p0), .val (.int p1), .val (.int p2), .val (.int p3), .val (.ref b1), .unset, .unset, .unset, .unset, .unset] [(.int (p3 &&& (1 : Int32)))])) target → Steps p.tables e below (s₁.setTop (mkF m 0 #[.val (.int p0), .val (.int p1), .val (.int p2), .val (.int p3), .unset, .unset, .unset, .unset, .unset, .unset] [])) target := by
    intro target kt
    show Steps p.tables e below (s₁.setTop (mkF m 0 #[.val (.int p0), .val (.int p1), .val (.int p2), .val (.int p3), .unset, .unset, .unset, .unset, .unset, .unset] [])) _
    refine XS.iloadN X0.here hx rfl (hb hby at_0) rfl ?_
    show Steps p.tables e below (s₁.setTop (mkF m 1 #[.val (.int p0), .val (.int p1), .val (.int p2), .val (.int p3), .unset, .unset, .unset, .unset, .unset, .unset] [(.int p2)])) _
    refine XS.sipush X0.here hx rfl (hb hby at_1) ?_
    show Steps p.tables e below (s₁.setTop (mkF m 4 #[.val (.int p0), .val (.int p1), .val (.int p2), .val (.int p3), .unset, .unset, .unset, .unset, .unset, .unset] [(.int (255 : Int32)), (.int p2)])) _
    refine XS.iand X0.here hx rfl (hb hby at_4) rfl ?_
    show Steps p.tables e below (s₁.setTop (mkF m 5 #[.val (.int p0), .val (.int p1), .val (.int p2), .val (.int p3), .unset, .unset, .unset, .unset, .unset, .unset] [(.int (p2 &&& (255 : Int32)))])) _
    refine XS.i2c X0.here hx rfl (hb hby at_5) rfl ?_
    show Steps p.tables e below (s₁.setTop (mkF m 6 #[.val (.int p0), .val (.int p1), .val (.int p2), .val (.int p3), .unset, .unset, .unset, .unset, .unset, .unset] [(.int ((p2 &&& (255 : Int32)).toUInt32.toUInt16.toUInt32.toInt32))])) _
    refine st1 _ ?_
    show Steps p.tables e below (T1.setTop (mkF m 9 #[.val (.int p0), .val (.int p1), .val (.int p2), .val (.int p3), .unset, .unset, .unset, .unset, .unset, .unset] [(.ref b1)])) _
    refine XS.astore X1.here hx rfl (hb hby at_9) rfl rfl (l' := #[.val (.int p0), .val (.int p1), .val (.int p2), .val (.int p3), .val (.ref b1), .unset, .unset, .unset, .unset, .unset]) rfl ?_
    show Steps p.tables e below (T1.setTop (mkF m 11 #[.val (.int p0), .val (.int p1), .val (.int p2), .val (.int p3), .val (.ref b1), .unset, .unset, .unset, .unset, .unset] [])) _
    refine XS.iloadN X1.here hx rfl (hb hby at_11) rfl ?_
    show Steps p.tables e below (T1.setTop (mkF m 12 #[.val (.int p0), .val (.int p1), .val (.int p2), .val (.int p3), .val (.ref b1), .unset, .unset, .unset, .unset, .unset] [(.int p3)])) _
    refine XS.iconst X1.here hx rfl (hb hby at_12) ?_
    show Steps p.tables e below (T1.setTop (mkF m 13 #[.val (.int p0), .val (.int p1), .val (.int p2), .val (.int p3), .val (.ref b1), .unset, .unset, .unset, .unset, .unset] [(.int (1 : Int32)), (.int p3)])) _
    refine XS.iand X1.here hx rfl (hb hby at_13) rfl ?_
    exact kt
  refine Done.of ?_ K2
  by_cases hc14_3 : (p3 &&& (1 : Int32)) = (0 : Int32)
  · have K : ∀ target, Steps p.tables e below (T1.setTop (mkF m 21 #[.val (.int p0), .val (.int p1), .val (.int p2), .val (.int p3), .val (.ref b1), .unset, .unset, .unset, .unset, .unset] [])) target → Steps p.tables e below (T1.setTop (mkF m 14 #[.val (.int p0), .val (.int p1), .val (.int p2), .val (.int p3), .val (.ref b1), .unset, .unset, .unset, .unset, .unset] [(.int (p3 &&& (1 : Int32)))])) target := by
      intro target kt
      refine XS.ifYes X1.here hx rfl (pc0 := 14) (pc' := 21) rfl (hb hby at_14) rfl ((if0 _ _).trans (teq hc14_3).1) (by decide) (by decide) ?_
      exact kt
    refine Done.of ?_ K
    obtain ⟨T4, h4, X4, e4, E4, A4, D4, -, st4⟩ := newO X1 hx hZ hown (hw _ (List.mem_of_getElem? (i := 27) rfl)) (hw _ (List.mem_of_getElem? (i := 28) rfl)) (hw _ (List.mem_of_getElem? (i := 29) rfl)) rfl (g := (mkF m 43 #[.val (.int p0), .val (.int p1), .val (.int p2), .val (.int p3), .val (.ref b1), .val (.int (0 : Int32)), .val (.int (p1 &&& (2147483647 : Int32))), .val (.int (p1 &&& (2147483647 : Int32))), .unset, .unset] [])) rfl (hb hby at_43) (by decide) (by decide)
    obtain ⟨b4, g4⟩ : ∃ z, z = T1.heap.size := ⟨_, rfl⟩
    rw [← g4] at A4 D4 st4
    have gnb4 : n0 ≤ b4 := Nat.le_trans Z1 (Nat.le_of_eq g4.symm)
    have Z4 : n0 ≤ h4.size := Nat.le_trans Z1 E4.1
    have F4_id : Fld Z h4 b4 "com/example/formula_to_count/formulatocount/FirstOrderCnf$Variable" "id" "I" (.int (0 : Int32)) := D4 (Or.inr (hw _ (List.mem_of_getElem? (i := 40) rfl))) (ty := .int) (by decide)
    have F4_domain : Fld Z h4 b4 "com/example/formula_to_count/formulatocount/FirstOrderCnf$Variable" "domain" "Ljava/lang/String;" .null := D4 (Or.inr (hw _ (List.mem_of_getElem? (i := 42) rfl))) (ty := (.object "java/lang/String")) (by decide)
    have F4_element : Fld Z h4 b4 "com/example/formula_to_count/formulatocount/FirstOrderCnf$Variable" "element" "I" (.int (0 : Int32)) := D4 (Or.inr (hw _ (List.mem_of_getElem? (i := 44) rfl))) (ty := .int) (by decide)
    obtain ⟨_, _, ⟨T5, L5, k5, n5⟩, -, X5, ⟨Lc5, hQ5, l5, y5, z5⟩, st5⟩ := X4.specialBack hx (y := (⟨"com/example/formula_to_count/formulatocount/FirstOrderCnf$Variable", "<init>", "(ILjava/lang/String;I)V"⟩ : MethodName)) rfl hown (mvT hZ (hw _ (List.mem_of_getElem? (i := 30) rfl))) (mvT hZ (hw _ (List.mem_of_getElem? (i := 31) rfl))) (mvT hZ (hw _ (List.mem_of_getElem? (i := 32) rfl))) (by decide) (backOf (W := 1) (rm6 l Z a0 hw [] b4 p0 b1 (p1 &&& (2147483647 : Int32)) h4 n0 Z4 A4 gnb4 F4_id F4_domain F4_element) hZ (hw _ (List.mem_of_getElem? (i := 32) rfl)) (hw _ (List.mem_of_getElem? (i := 29) rfl)) (by decide) (by decide)) (g := (mkF m 52 #[.val (.int p0), .val (.int p1), .val (.int p2), .val (.int p3), .val (.ref b1), .val (.int (0 : Int32)), .val (.int (p1 &&& (2147483647 : Int32))), .val (.int (p1 &&& (2147483647 : Int32))), .unset, .unset] [(.int (p1 &&& (2147483647 : Int32))), (.ref b1), (.int p0), (.ref b4), (.ref b4)])) rfl (by rw [hml]; rfl) (Steps.refl _) (a := b4) (argsL := [(.int p0), (.ref b1), (.int (p1 &&& (2147483647 : Int32)))]) (rest := [(.ref b4)]) (lenOf pd_4 rfl) rfl (by show 2 * 0 + _ ≤ _; exact Nat.le_of_eq rfl) (hb hby at_52) (fun _ _ => ⟨rfl, e4, (by decide : 3 + 0 ≤ _), (by decide : 8 + 0 ≤ _)⟩)
    dsimp only [Pt.U, Pt.locs, Pt.cells, Pt.slots] at X5 l5 y5 z5 st5 hQ5
    subst l5 y5 z5
    obtain ⟨rfl, N5q, K5q, EI5, FI5⟩ := hQ5
    have N5 := Fr.app N1 N5q
    have Z5 : n0 ≤ T5.heap.size := Nat.le_trans Z4 K5q.1
    obtain ⟨cq6, kq6, q6a, q6b, q6c⟩ := isOf hZ rfl EI5
    obtain ⟨_, _, ⟨T6, L6, k6, n6⟩, -, X6, ⟨Lc6, hQ6, l6, y6, z6⟩, st6⟩ := X5.virtualBack hx (y := (⟨"com/example/formula_to_count/formulatocount/FirstOrderCnf$Variable", "isNamed", "()Z"⟩ : MethodName)) (z := (⟨"com/example/formula_to_count/formulatocount/FirstOrderCnf$Variable", "isNamed", "()Z"⟩ : MethodName)) hown (mvT hZ (hw _ (List.mem_of_getElem? (i := 45) rfl))) (mvT hZ (hw _ (List.mem_of_getElem? (i := 46) rfl))) (notFace_of_selects (args := #[]) (mvT hZ (hw _ (List.mem_of_getElem? (i := 48) rfl)))) (mvT hZ (hw _ (List.mem_of_getElem? (i := 48) rfl))) (mvT hZ (hw _ (List.mem_of_getElem? (i := 47) rfl))) (by decide) (backOf (W := 0) (rm8 l Z a0 hw [] b4 (p1 &&& (2147483647 : Int32)) T5.heap n0 Z5 FI5) hZ (hw _ (List.mem_of_getElem? (i := 49) rfl)) (hw _ (List.mem_of_getElem? (i := 29) rfl)) (by decide) (by decide)) q6a q6c (g := (mkF m 71 #[.val (.int p0), .val (.int p1), .val (.int p2), .val (.int p3), .val (.ref b1), .val (.int (0 : Int32)), .val (.int (p1 &&& (2147483647 : Int32))), .val (.int (p1 &&& (2147483647 : Int32))), .val (.ref b4), .val (.int (1 : Int32))] [(.ref b4)])) rfl (by rw [hml]; rfl) (Steps.refl _) (argsL := []) (rest := []) (lenOf pd_6 rfl) rfl (by show 2 * 0 + _ ≤ _; exact Nat.le_of_eq rfl) (hb hby at_71) (fun _ _ => ⟨rfl, rfl, (by decide : 3 + 0 ≤ _), (by decide : 8 + 0 ≤ _)⟩)
    dsimp only [Pt.U, Pt.locs, Pt.cells, Pt.slots] at X6 l6 y6 z6 st6 hQ6
    subst l6 y6 z6
    obtain ⟨rfl, N6q, e6⟩ := hQ6
    have N6 := Fr.app N5 N6q
    have hd76_7 : (if (p1 &&& (2147483647 : Int32)) = (-1 : Int32) then (0 : Int32) else (1 : Int32)) = (1 : Int32) := by (first | rfl | decide | (rw [if_neg (own_ix p1)]))
    obtain ⟨_, _, ⟨T8, L8, k8, n8⟩, -, X8, ⟨Lc8, hQ8, l8, y8, z8⟩, st8⟩ := Jvm.LawKit.callS X6 hx (y := (⟨"com/example/formula_to_count/formulatocount/FirstOrderCnf$Variable", "over", "(ILjava/lang/String;)Lcom/example/formula_to_count/formulatocount/FirstOrderCnf$Variable;"⟩ : MethodName)) hown (mvT hZ (hw _ (List.mem_of_getElem? (i := 50) rfl))) (mvT hZ (hw _ (List.mem_of_getElem? (i := 51) rfl))) (mvT hZ (hw _ (List.mem_of_getElem? (i := 29) rfl))) (mvT hZ (hw _ (List.mem_of_getElem? (i := 52) rfl))) (by decide) (backOf (W := 0) (rm9 l Z a0 hw [] p0 b1 T5.heap n0 Z5 ) hZ (hw _ (List.mem_of_getElem? (i := 52) rfl)) (hw _ (List.mem_of_getElem? (i := 29) rfl)) (by decide) (by decide)) (g := (mkF m 84 #[.val (.int p0), .val (.int p1), .val (.int p2), .val (.int p3), .val (.ref b1), .val (.int (0 : Int32)), .val (.int (p1 &&& (2147483647 : Int32))), .val (.int (p1 &&& (2147483647 : Int32))), .val (.ref b4), .val (.int (1 : Int32))] [(.ref b1), (.int p0)])) rfl (by rw [hml]; rfl) (argsL := [(.int p0), (.ref b1)]) (rest := []) (lenOf pd_7 rfl) rfl (by show 2 * 0 + _ ≤ _; exact Nat.le_of_eq rfl) (hb hby at_84) (fun _ _ => ⟨rfl, e6, (by decide : 3 + 1 ≤ _), (by decide : 8 + 3 ≤ _)⟩)
    dsimp only [Pt.U, Pt.locs, Pt.cells, Pt.slots] at X8 l8 y8 z8 st8 hQ8
    subst l8 y8 z8
    obtain ⟨b8, rfl, N8q, K8q, EI8, FI8⟩ := hQ8
    have N8 := Fr.app N6 N8q
    have Z8 : n0 ≤ T8.heap.size := Nat.le_trans Z5 K8q.1
    obtain ⟨cq9, kq9, q9a, q9b, q9c⟩ := isOf hZ rfl EI8
    obtain ⟨_, _, ⟨T9, L9, k9, n9⟩, -, X9, ⟨Lc9, hQ9, l9, y9, z9⟩, st9⟩ := X8.virtualBack hx (y := (⟨"com/example/formula_to_count/formulatocount/FirstOrderCnf$Variable", "isNamed", "()Z"⟩ : MethodName)) (z := (⟨"com/example/formula_to_count/formulatocount/FirstOrderCnf$Variable", "isNamed", "()Z"⟩ : MethodName)) hown (mvT hZ (hw _ (List.mem_of_getElem? (i := 45) rfl))) (mvT hZ (hw _ (List.mem_of_getElem? (i := 46) rfl))) (notFace_of_selects (args := #[]) (mvT hZ (hw _ (List.mem_of_getElem? (i := 48) rfl)))) (mvT hZ (hw _ (List.mem_of_getElem? (i := 48) rfl))) (mvT hZ (hw _ (List.mem_of_getElem? (i := 47) rfl))) (by decide) (backOf (W := 0) (rm8 l Z a0 hw [] b8 (-1 : Int32) T8.heap n0 Z8 FI8) hZ (hw _ (List.mem_of_getElem? (i := 49) rfl)) (hw _ (List.mem_of_getElem? (i := 29) rfl)) (by decide) (by decide)) q9a q9c (g := (mkF m 87 #[.val (.int p0), .val (.int p1), .val (.int p2), .val (.int p3), .val (.ref b1), .val (.int (0 : Int32)), .val (.int (p1 &&& (2147483647 : Int32))), .val (.int (p1 &&& (2147483647 : Int32))), .val (.ref b4), .val (.int (1 : Int32))] [(.ref b8)])) rfl (by rw [hml]; rfl) (Steps.refl _) (argsL := []) (rest := []) (lenOf pd_6 rfl) rfl (by show 2 * 0 + _ ≤ _; exact Nat.le_of_eq rfl) (hb hby at_87) (fun _ _ => ⟨rfl, rfl, (by decide : 4 + 0 ≤ _), (by decide : 11 + 0 ≤ _)⟩)
    dsimp only [Pt.U, Pt.locs, Pt.cells, Pt.slots] at X9 l9 y9 z9 st9 hQ9
    subst l9 y9 z9
    obtain ⟨rfl, N9q, e9⟩ := hQ9
    have N9 := Fr.app N8 N9q
    have hd90_10 : (if (-1 : Int32) = (-1 : Int32) then (0 : Int32) else (1 : Int32)) = (0 : Int32) := by (rw [if_pos rfl])
    obtain ⟨_, _, ⟨T11, L11, k11, n11⟩, -, X11, ⟨Lc11, hQ11, l11, y11, z11⟩, st11⟩ := Jvm.LawKit.callS X9 hx (y := (⟨"com/example/formula_to_count/formulatocount/FirstOrderCnf$Variable", "named", "(Ljava/lang/String;I)Lcom/example/formula_to_count/formulatocount/FirstOrderCnf$Variable;"⟩ : MethodName)) hown (mvT hZ (hw _ (List.mem_of_getElem? (i := 55) rfl))) (mvT hZ (hw _ (List.mem_of_getElem? (i := 56) rfl))) (mvT hZ (hw _ (List.mem_of_getElem? (i := 29) rfl))) (mvT hZ (hw _ (List.mem_of_getElem? (i := 57) rfl))) (by decide) (backOf (W := 0) (rm10 l Z a0 hw [] b1 (p1 &&& (2147483647 : Int32)) T8.heap n0 Z8 ) hZ (hw _ (List.mem_of_getElem? (i := 57) rfl)) (hw _ (List.mem_of_getElem? (i := 29) rfl)) (by decide) (by decide)) (g := (mkF m 99 #[.val (.int p0), .val (.int p1), .val (.int p2), .val (.int p3), .val (.ref b1), .val (.int (0 : Int32)), .val (.int (p1 &&& (2147483647 : Int32))), .val (.int (p1 &&& (2147483647 : Int32))), .val (.ref b4), .val (.int (1 : Int32))] [(.int (p1 &&& (2147483647 : Int32))), (.ref b1)])) rfl (by rw [hml]; rfl) (argsL := [(.ref b1), (.int (p1 &&& (2147483647 : Int32)))]) (rest := []) (lenOf pd_8 rfl) rfl (by show 2 * 0 + _ ≤ _; exact Nat.le_of_eq rfl) (hb hby at_99) (fun _ _ => ⟨rfl, e9, (by decide : 4 + 1 ≤ _), (by decide : 11 + 3 ≤ _)⟩)
    dsimp only [Pt.U, Pt.locs, Pt.cells, Pt.slots] at X11 l11 y11 z11 st11 hQ11
    subst l11 y11 z11
    obtain ⟨b11, rfl, N11q, K11q, EI11, FI11⟩ := hQ11
    have N11 := Fr.app N9 N11q
    have Z11 : n0 ≤ T11.heap.size := Nat.le_trans Z8 K11q.1
    obtain ⟨cq12, kq12, q12a, q12b, q12c⟩ := isOf hZ rfl EI11
    obtain ⟨_, _, ⟨T12, L12, k12, n12⟩, -, X12, ⟨Lc12, hQ12, l12, y12, z12⟩, st12⟩ := X11.virtualBack hx (y := (⟨"com/example/formula_to_count/formulatocount/FirstOrderCnf$Variable", "isNamed", "()Z"⟩ : MethodName)) (z := (⟨"com/example/formula_to_count/formulatocount/FirstOrderCnf$Variable", "isNamed", "()Z"⟩ : MethodName)) hown (mvT hZ (hw _ (List.mem_of_getElem? (i := 45) rfl))) (mvT hZ (hw _ (List.mem_of_getElem? (i := 46) rfl))) (notFace_of_selects (args := #[]) (mvT hZ (hw _ (List.mem_of_getElem? (i := 48) rfl)))) (mvT hZ (hw _ (List.mem_of_getElem? (i := 48) rfl))) (mvT hZ (hw _ (List.mem_of_getElem? (i := 47) rfl))) (by decide) (backOf (W := 0) (rm8 l Z a0 hw [] b11 (p1 &&& (2147483647 : Int32)) T11.heap n0 Z11 FI11) hZ (hw _ (List.mem_of_getElem? (i := 49) rfl)) (hw _ (List.mem_of_getElem? (i := 29) rfl)) (by decide) (by decide)) q12a q12c (g := (mkF m 102 #[.val (.int p0), .val (.int p1), .val (.int p2), .val (.int p3), .val (.ref b1), .val (.int (0 : Int32)), .val (.int (p1 &&& (2147483647 : Int32))), .val (.int (p1 &&& (2147483647 : Int32))), .val (.ref b4), .val (.int (1 : Int32))] [(.ref b11)])) rfl (by rw [hml]; rfl) (Steps.refl _) (argsL := []) (rest := []) (lenOf pd_6 rfl) rfl (by show 2 * 0 + _ ≤ _; exact Nat.le_of_eq rfl) (hb hby at_102) (fun _ _ => ⟨rfl, rfl, (by decide : 5 + 0 ≤ _), (by decide : 14 + 0 ≤ _)⟩)
    dsimp only [Pt.U, Pt.locs, Pt.cells, Pt.slots] at X12 l12 y12 z12 st12 hQ12
    subst l12 y12 z12
    obtain ⟨rfl, N12q, e12⟩ := hQ12
    have N12 := Fr.app N11 N12q
    obtain ⟨fs, hr, hrun, hended, hW, hsame⟩ := X12.leave (v := some (.int (nar .boolean (if (p1 &&& (2147483647 : Int32)) = (-1 : Int32) then (0 : Int32) else (1 : Int32))))) (fun h => by rw [Bd.returns] at h; cases h)
    refine ⟨_, _, ?_, hrun, hended, _, _, rfl, ?_, ⟨_, rfl⟩, hW, hsame.mono (by decide) (by decide)⟩
    · show Steps p.tables e below (T1.setTop (mkF m 21 #[.val (.int p0), .val (.int p1), .val (.int p2), .val (.int p3), .val (.ref b1), .unset, .unset, .unset, .unset, .unset] [])) _
      refine XS.iconst X1.here hx rfl (hb hby at_21) ?_
      show Steps p.tables e below (T1.setTop (mkF m 22 #[.val (.int p0), .val (.int p1), .val (.int p2), .val (.int p3), .val (.ref b1), .unset, .unset, .unset, .unset, .unset] [(.int (0 : Int32))])) _
      refine XS.istore X1.here hx rfl (hb hby at_22) rfl (l' := #[.val (.int p0), .val (.int p1), .val (.int p2), .val (.int p3), .val (.ref b1), .val (.int (0 : Int32)), .unset, .unset, .unset, .unset]) rfl ?_
      show Steps p.tables e below (T1.setTop (mkF m 24 #[.val (.int p0), .val (.int p1), .val (.int p2), .val (.int p3), .val (.ref b1), .val (.int (0 : Int32)), .unset, .unset, .unset, .unset] [])) _
      refine XS.iloadN X1.here hx rfl (hb hby at_24) rfl ?_
      show Steps p.tables e below (T1.setTop (mkF m 25 #[.val (.int p0), .val (.int p1), .val (.int p2), .val (.int p3), .val (.ref b1), .val (.int (0 : Int32)), .unset, .unset, .unset, .unset] [(.int p1)])) _
      refine X1.ldcInt hx hown (mvT hZ (hw _ (List.mem_of_getElem? (i := 26) rfl))) (g := (mkF m 25 #[.val (.int p0), .val (.int p1), .val (.int p2), .val (.int p3), .val (.ref b1), .val (.int (0 : Int32)), .unset, .unset, .unset, .unset] [(.int p1)])) rfl (hb hby at_25) _ ?_
      show Steps p.tables e below (T1.setTop (mkF m 27 #[.val (.int p0), .val (.int p1), .val (.int p2), .val (.int p3), .val (.ref b1), .val (.int (0 : Int32)), .unset, .unset, .unset, .unset] [(.int (2147483647 : Int32)), (.int p1)])) _
      refine XS.iand X1.here hx rfl (hb hby at_27) rfl ?_
      show Steps p.tables e below (T1.setTop (mkF m 28 #[.val (.int p0), .val (.int p1), .val (.int p2), .val (.int p3), .val (.ref b1), .val (.int (0 : Int32)), .unset, .unset, .unset, .unset] [(.int (p1 &&& (2147483647 : Int32)))])) _
      refine XS.istore X1.here hx rfl (hb hby at_28) rfl (l' := #[.val (.int p0), .val (.int p1), .val (.int p2), .val (.int p3), .val (.ref b1), .val (.int (0 : Int32)), .val (.int (p1 &&& (2147483647 : Int32))), .unset, .unset, .unset]) rfl ?_
      show Steps p.tables e below (T1.setTop (mkF m 30 #[.val (.int p0), .val (.int p1), .val (.int p2), .val (.int p3), .val (.ref b1), .val (.int (0 : Int32)), .val (.int (p1 &&& (2147483647 : Int32))), .unset, .unset, .unset] [])) _
      refine XS.iload X1.here hx rfl (hb hby at_30) rfl ?_
      show Steps p.tables e below (T1.setTop (mkF m 32 #[.val (.int p0), .val (.int p1), .val (.int p2), .val (.int p3), .val (.ref b1), .val (.int (0 : Int32)), .val (.int (p1 &&& (2147483647 : Int32))), .unset, .unset, .unset] [(.int (0 : Int32))])) _
      refine XS.ifYes X1.here hx rfl (pc0 := 32) (pc' := 39) rfl (hb hby at_32) rfl ((if0 _ _).trans (teq (rfl : (0 : Int32) = (0 : Int32))).1) (by decide) (by decide) ?_
      show Steps p.tables e below (T1.setTop (mkF m 39 #[.val (.int p0), .val (.int p1), .val (.int p2), .val (.int p3), .val (.ref b1), .val (.int (0 : Int32)), .val (.int (p1 &&& (2147483647 : Int32))), .unset, .unset, .unset] [])) _
      refine XS.iload X1.here hx rfl (hb hby at_39) rfl ?_
      show Steps p.tables e below (T1.setTop (mkF m 41 #[.val (.int p0), .val (.int p1), .val (.int p2), .val (.int p3), .val (.ref b1), .val (.int (0 : Int32)), .val (.int (p1 &&& (2147483647 : Int32))), .unset, .unset, .unset] [(.int (p1 &&& (2147483647 : Int32)))])) _
      refine XS.istore X1.here hx rfl (hb hby at_41) rfl (l' := #[.val (.int p0), .val (.int p1), .val (.int p2), .val (.int p3), .val (.ref b1), .val (.int (0 : Int32)), .val (.int (p1 &&& (2147483647 : Int32))), .val (.int (p1 &&& (2147483647 : Int32))), .unset, .unset]) rfl ?_
      show Steps p.tables e below (T1.setTop (mkF m 43 #[.val (.int p0), .val (.int p1), .val (.int p2), .val (.int p3), .val (.ref b1), .val (.int (0 : Int32)), .val (.int (p1 &&& (2147483647 : Int32))), .val (.int (p1 &&& (2147483647 : Int32))), .unset, .unset] [])) _
      refine st4 _ ?_
      show Steps p.tables e below (T4.setTop (mkF m 46 #[.val (.int p0), .val (.int p1), .val (.int p2), .val (.int p3), .val (.ref b1), .val (.int (0 : Int32)), .val (.int (p1 &&& (2147483647 : Int32))), .val (.int (p1 &&& (2147483647 : Int32))), .unset, .unset] [(.ref b4)])) _
      refine XS.dup X4.here hx rfl (hb hby at_46) rfl rfl ?_
      show Steps p.tables e below (T4.setTop (mkF m 47 #[.val (.int p0), .val (.int p1), .val (.int p2), .val (.int p3), .val (.ref b1), .val (.int (0 : Int32)), .val (.int (p1 &&& (2147483647 : Int32))), .val (.int (p1 &&& (2147483647 : Int32))), .unset, .unset] [(.ref b4), (.ref b4)])) _
      refine XS.iloadN X4.here hx rfl (hb hby at_47) rfl ?_
      show Steps p.tables e below (T4.setTop (mkF m 48 #[.val (.int p0), .val (.int p1), .val (.int p2), .val (.int p3), .val (.ref b1), .val (.int (0 : Int32)), .val (.int (p1 &&& (2147483647 : Int32))), .val (.int (p1 &&& (2147483647 : Int32))), .unset, .unset] [(.int p0), (.ref b4), (.ref b4)])) _
      refine XS.aload X4.here hx rfl (hb hby at_48) rfl rfl ?_
      show Steps p.tables e below (T4.setTop (mkF m 50 #[.val (.int p0), .val (.int p1), .val (.int p2), .val (.int p3), .val (.ref b1), .val (.int (0 : Int32)), .val (.int (p1 &&& (2147483647 : Int32))), .val (.int (p1 &&& (2147483647 : Int32))), .unset, .unset] [(.ref b1), (.int p0), (.ref b4), (.ref b4)])) _
      refine XS.iload X4.here hx rfl (hb hby at_50) rfl ?_
      show Steps p.tables e below (T4.setTop (mkF m 52 #[.val (.int p0), .val (.int p1), .val (.int p2), .val (.int p3), .val (.ref b1), .val (.int (0 : Int32)), .val (.int (p1 &&& (2147483647 : Int32))), .val (.int (p1 &&& (2147483647 : Int32))), .unset, .unset] [(.int (p1 &&& (2147483647 : Int32))), (.ref b1), (.int p0), (.ref b4), (.ref b4)])) _
      refine st5.trans ?_
      show Steps p.tables e below (T5.setTop (mkF m 55 #[.val (.int p0), .val (.int p1), .val (.int p2), .val (.int p3), .val (.ref b1), .val (.int (0 : Int32)), .val (.int (p1 &&& (2147483647 : Int32))), .val (.int (p1 &&& (2147483647 : Int32))), .unset, .unset] [(.ref b4)])) _
      refine XS.astore X5.here hx rfl (hb hby at_55) rfl rfl (l' := #[.val (.int p0), .val (.int p1), .val (.int p2), .val (.int p3), .val (.ref b1), .val (.int (0 : Int32)), .val (.int (p1 &&& (2147483647 : Int32))), .val (.int (p1 &&& (2147483647 : Int32))), .val (.ref b4), .unset]) rfl ?_
      show Steps p.tables e below (T5.setTop (mkF m 57 #[.val (.int p0), .val (.int p1), .val (.int p2), .val (.int p3), .val (.ref b1), .val (.int (0 : Int32)), .val (.int (p1 &&& (2147483647 : Int32))), .val (.int (p1 &&& (2147483647 : Int32))), .val (.ref b4), .unset] [])) _
      refine XS.iload X5.here hx rfl (hb hby at_57) rfl ?_
      show Steps p.tables e below (T5.setTop (mkF m 59 #[.val (.int p0), .val (.int p1), .val (.int p2), .val (.int p3), .val (.ref b1), .val (.int (0 : Int32)), .val (.int (p1 &&& (2147483647 : Int32))), .val (.int (p1 &&& (2147483647 : Int32))), .val (.ref b4), .unset] [(.int (0 : Int32))])) _
      refine XS.ifNo X5.here hx rfl (hb hby at_59) rfl ((if0 _ _).trans (teq (rfl : (0 : Int32) = (0 : Int32))).2) ?_
      show Steps p.tables e below (T5.setTop (mkF m 62 #[.val (.int p0), .val (.int p1), .val (.int p2), .val (.int p3), .val (.ref b1), .val (.int (0 : Int32)), .val (.int (p1 &&& (2147483647 : Int32))), .val (.int (p1 &&& (2147483647 : Int32))), .val (.ref b4), .unset] [])) _
      refine XS.iconst X5.here hx rfl (hb hby at_62) ?_
      show Steps p.tables e below (T5.setTop (mkF m 63 #[.val (.int p0), .val (.int p1), .val (.int p2), .val (.int p3), .val (.ref b1), .val (.int (0 : Int32)), .val (.int (p1 &&& (2147483647 : Int32))), .val (.int (p1 &&& (2147483647 : Int32))), .val (.ref b4), .unset] [(.int (1 : Int32))])) _
      refine XS.goto X5.here hx rfl (pc0 := 63) (pc' := 67) rfl (hb hby at_63) (by decide) (by decide) ?_
      show Steps p.tables e below (T5.setTop (mkF m 67 #[.val (.int p0), .val (.int p1), .val (.int p2), .val (.int p3), .val (.ref b1), .val (.int (0 : Int32)), .val (.int (p1 &&& (2147483647 : Int32))), .val (.int (p1 &&& (2147483647 : Int32))), .val (.ref b4), .unset] [(.int (1 : Int32))])) _
      refine XS.istore X5.here hx rfl (hb hby at_67) rfl (l' := #[.val (.int p0), .val (.int p1), .val (.int p2), .val (.int p3), .val (.ref b1), .val (.int (0 : Int32)), .val (.int (p1 &&& (2147483647 : Int32))), .val (.int (p1 &&& (2147483647 : Int32))), .val (.ref b4), .val (.int (1 : Int32))]) rfl ?_
      show Steps p.tables e below (T5.setTop (mkF m 69 #[.val (.int p0), .val (.int p1), .val (.int p2), .val (.int p3), .val (.ref b1), .val (.int (0 : Int32)), .val (.int (p1 &&& (2147483647 : Int32))), .val (.int (p1 &&& (2147483647 : Int32))), .val (.ref b4), .val (.int (1 : Int32))] [])) _
      refine XS.aload X5.here hx rfl (hb hby at_69) rfl rfl ?_
      show Steps p.tables e below (T5.setTop (mkF m 71 #[.val (.int p0), .val (.int p1), .val (.int p2), .val (.int p3), .val (.ref b1), .val (.int (0 : Int32)), .val (.int (p1 &&& (2147483647 : Int32))), .val (.int (p1 &&& (2147483647 : Int32))), .val (.ref b4), .val (.int (1 : Int32))] [(.ref b4)])) _
      refine st6.trans ?_
      refine XS.iload X6.here hx rfl (hb hby at_74) rfl ?_
      show Steps p.tables e below (T6.setTop (mkF m 76 #[.val (.int p0), .val (.int p1), .val (.int p2), .val (.int p3), .val (.ref b1), .val (.int (0 : Int32)), .val (.int (p1 &&& (2147483647 : Int32))), .val (.int (p1 &&& (2147483647 : Int32))), .val (.ref b4), .val (.int (1 : Int32))] [(.int (1 : Int32)), (.int (if (p1 &&& (2147483647 : Int32)) = (-1 : Int32) then (0 : Int32) else (1 : Int32)))])) _
      refine XS.icmpYes X6.here hx rfl (pc0 := 76) (pc' := 81) rfl (hb hby at_76) rfl (teq hd76_7).1 (by decide) (by decide) ?_
      show Steps p.tables e below (T6.setTop (mkF m 81 #[.val (.int p0), .val (.int p1), .val (.int p2), .val (.int p3), .val (.ref b1), .val (.int (0 : Int32)), .val (.int (p1 &&& (2147483647 : Int32))), .val (.int (p1 &&& (2147483647 : Int32))), .val (.ref b4), .val (.int (1 : Int32))] [])) _
      refine XS.iloadN X6.here hx rfl (hb hby at_81) rfl ?_
      show Steps p.tables e below (T6.setTop (mkF m 82 #[.val (.int p0), .val (.int p1), .val (.int p2), .val (.int p3), .val (.ref b1), .val (.int (0 : Int32)), .val (.int (p1 &&& (2147483647 : Int32))), .val (.int (p1 &&& (2147483647 : Int32))), .val (.ref b4), .val (.int (1 : Int32))] [(.int p0)])) _
      refine XS.aload X6.here hx rfl (hb hby at_82) rfl rfl ?_
      show Steps p.tables e below (T6.setTop (mkF m 84 #[.val (.int p0), .val (.int p1), .val (.int p2), .val (.int p3), .val (.ref b1), .val (.int (0 : Int32)), .val (.int (p1 &&& (2147483647 : Int32))), .val (.int (p1 &&& (2147483647 : Int32))), .val (.ref b4), .val (.int (1 : Int32))] [(.ref b1), (.int p0)])) _
      refine st8 _ ?_
      show Steps p.tables e below (T8.setTop (mkF m 87 #[.val (.int p0), .val (.int p1), .val (.int p2), .val (.int p3), .val (.ref b1), .val (.int (0 : Int32)), .val (.int (p1 &&& (2147483647 : Int32))), .val (.int (p1 &&& (2147483647 : Int32))), .val (.ref b4), .val (.int (1 : Int32))] [(.ref b8)])) _
      refine st9.trans ?_
      show Steps p.tables e below (T9.setTop (mkF m 90 #[.val (.int p0), .val (.int p1), .val (.int p2), .val (.int p3), .val (.ref b1), .val (.int (0 : Int32)), .val (.int (p1 &&& (2147483647 : Int32))), .val (.int (p1 &&& (2147483647 : Int32))), .val (.ref b4), .val (.int (1 : Int32))] [(.int (if (-1 : Int32) = (-1 : Int32) then (0 : Int32) else (1 : Int32)))])) _
      refine XS.ifYes X9.here hx rfl (pc0 := 90) (pc' := 95) rfl (hb hby at_90) rfl ((if0 _ _).trans (teq hd90_10).1) (by decide) (by decide) ?_
      show Steps p.tables e below (T9.setTop (mkF m 95 #[.val (.int p0), .val (.int p1), .val (.int p2), .val (.int p3), .val (.ref b1), .val (.int (0 : Int32)), .val (.int (p1 &&& (2147483647 : Int32))), .val (.int (p1 &&& (2147483647 : Int32))), .val (.ref b4), .val (.int (1 : Int32))] [])) _
      refine XS.aload X9.here hx rfl (hb hby at_95) rfl rfl ?_
      show Steps p.tables e below (T9.setTop (mkF m 97 #[.val (.int p0), .val (.int p1), .val (.int p2), .val (.int p3), .val (.ref b1), .val (.int (0 : Int32)), .val (.int (p1 &&& (2147483647 : Int32))), .val (.int (p1 &&& (2147483647 : Int32))), .val (.ref b4), .val (.int (1 : Int32))] [(.ref b1)])) _
      refine XS.iload X9.here hx rfl (hb hby at_97) rfl ?_
      show Steps p.tables e below (T9.setTop (mkF m 99 #[.val (.int p0), .val (.int p1), .val (.int p2), .val (.int p3), .val (.ref b1), .val (.int (0 : Int32)), .val (.int (p1 &&& (2147483647 : Int32))), .val (.int (p1 &&& (2147483647 : Int32))), .val (.ref b4), .val (.int (1 : Int32))] [(.int (p1 &&& (2147483647 : Int32))), (.ref b1)])) _
      refine st11 _ ?_
      show Steps p.tables e below (T11.setTop (mkF m 102 #[.val (.int p0), .val (.int p1), .val (.int p2), .val (.int p3), .val (.ref b1), .val (.int (0 : Int32)), .val (.int (p1 &&& (2147483647 : Int32))), .val (.int (p1 &&& (2147483647 : Int32))), .val (.ref b4), .val (.int (1 : Int32))] [(.ref b11)])) _
      refine st12.trans ?_
      show Steps p.tables e below (T12.setTop (mkF m 105 #[.val (.int p0), .val (.int p1), .val (.int p2), .val (.int p3), .val (.ref b1), .val (.int (0 : Int32)), .val (.int (p1 &&& (2147483647 : Int32))), .val (.int (p1 &&& (2147483647 : Int32))), .val (.ref b4), .val (.int (1 : Int32))] [(.int (if (p1 &&& (2147483647 : Int32)) = (-1 : Int32) then (0 : Int32) else (1 : Int32)))])) _
      exact retN X12 hx (t := .boolean) Bd.returns (by simp) (hb hby at_105) hr
    · show Q0 Z p0 p1 p2 p3 cs h0 n0 _ T12.heap _
      rw [e12]
      exact ⟨by rw [if_neg (own_ix p1)]; rfl, N12⟩
  · have K : ∀ target, Steps p.tables e below (T1.setTop (mkF m 17 #[.val (.int p0), .val (.int p1), .val (.int p2), .val (.int p3), .val (.ref b1), .unset, .unset, .unset, .unset, .unset] [])) target → Steps p.tables e below (T1.setTop (mkF m 14 #[.val (.int p0), .val (.int p1), .val (.int p2), .val (.int p3), .val (.ref b1), .unset, .unset, .unset, .unset, .unset] [(.int (p3 &&& (1 : Int32)))])) target := by
      intro target kt
      refine XS.ifNo X1.here hx rfl (hb hby at_14) rfl ((if0 _ _).trans (feq hc14_3).1) ?_
      exact kt
    refine Done.of ?_ K
    obtain ⟨T13, h13, X13, e13, E13, A13, D13, -, st13⟩ := newO X1 hx hZ hown (hw _ (List.mem_of_getElem? (i := 27) rfl)) (hw _ (List.mem_of_getElem? (i := 28) rfl)) (hw _ (List.mem_of_getElem? (i := 29) rfl)) rfl (g := (mkF m 43 #[.val (.int p0), .val (.int p1), .val (.int p2), .val (.int p3), .val (.ref b1), .val (.int (1 : Int32)), .val (.int (p1 &&& (2147483647 : Int32))), .val (.int (-1 : Int32)), .unset, .unset] [])) rfl (hb hby at_43) (by decide) (by decide)
    obtain ⟨b13, g13⟩ : ∃ z, z = T1.heap.size := ⟨_, rfl⟩
    rw [← g13] at A13 D13 st13
    have gnb13 : n0 ≤ b13 := Nat.le_trans Z1 (Nat.le_of_eq g13.symm)
    have Z13 : n0 ≤ h13.size := Nat.le_trans Z1 E13.1
    have F13_id : Fld Z h13 b13 "com/example/formula_to_count/formulatocount/FirstOrderCnf$Variable" "id" "I" (.int (0 : Int32)) := D13 (Or.inr (hw _ (List.mem_of_getElem? (i := 40) rfl))) (ty := .int) (by decide)
    have F13_domain : Fld Z h13 b13 "com/example/formula_to_count/formulatocount/FirstOrderCnf$Variable" "domain" "Ljava/lang/String;" .null := D13 (Or.inr (hw _ (List.mem_of_getElem? (i := 42) rfl))) (ty := (.object "java/lang/String")) (by decide)
    have F13_element : Fld Z h13 b13 "com/example/formula_to_count/formulatocount/FirstOrderCnf$Variable" "element" "I" (.int (0 : Int32)) := D13 (Or.inr (hw _ (List.mem_of_getElem? (i := 44) rfl))) (ty := .int) (by decide)
    obtain ⟨_, _, ⟨T14, L14, k14, n14⟩, -, X14, ⟨Lc14, hQ14, l14, y14, z14⟩, st14⟩ := X13.specialBack hx (y := (⟨"com/example/formula_to_count/formulatocount/FirstOrderCnf$Variable", "<init>", "(ILjava/lang/String;I)V"⟩ : MethodName)) rfl hown (mvT hZ (hw _ (List.mem_of_getElem? (i := 30) rfl))) (mvT hZ (hw _ (List.mem_of_getElem? (i := 31) rfl))) (mvT hZ (hw _ (List.mem_of_getElem? (i := 32) rfl))) (by decide) (backOf (W := 1) (rm6 l Z a0 hw [] b13 p0 b1 (-1 : Int32) h13 n0 Z13 A13 gnb13 F13_id F13_domain F13_element) hZ (hw _ (List.mem_of_getElem? (i := 32) rfl)) (hw _ (List.mem_of_getElem? (i := 29) rfl)) (by decide) (by decide)) (g := (mkF m 52 #[.val (.int p0), .val (.int p1), .val (.int p2), .val (.int p3), .val (.ref b1), .val (.int (1 : Int32)), .val (.int (p1 &&& (2147483647 : Int32))), .val (.int (-1 : Int32)), .unset, .unset] [(.int (-1 : Int32)), (.ref b1), (.int p0), (.ref b13), (.ref b13)])) rfl (by rw [hml]; rfl) (Steps.refl _) (a := b13) (argsL := [(.int p0), (.ref b1), (.int (-1 : Int32))]) (rest := [(.ref b13)]) (lenOf pd_4 rfl) rfl (by show 2 * 0 + _ ≤ _; exact Nat.le_of_eq rfl) (hb hby at_52) (fun _ _ => ⟨rfl, e13, (by decide : 3 + 0 ≤ _), (by decide : 8 + 0 ≤ _)⟩)
    dsimp only [Pt.U, Pt.locs, Pt.cells, Pt.slots] at X14 l14 y14 z14 st14 hQ14
    subst l14 y14 z14
    obtain ⟨rfl, N14q, K14q, EI14, FI14⟩ := hQ14
    have N14 := Fr.app N1 N14q
    have Z14 : n0 ≤ T14.heap.size := Nat.le_trans Z13 K14q.1
    obtain ⟨cq15, kq15, q15a, q15b, q15c⟩ := isOf hZ rfl EI14
    obtain ⟨_, _, ⟨T15, L15, k15, n15⟩, -, X15, ⟨Lc15, hQ15, l15, y15, z15⟩, st15⟩ := X14.virtualBack hx (y := (⟨"com/example/formula_to_count/formulatocount/FirstOrderCnf$Variable", "isNamed", "()Z"⟩ : MethodName)) (z := (⟨"com/example/formula_to_count/formulatocount/FirstOrderCnf$Variable", "isNamed", "()Z"⟩ : MethodName)) hown (mvT hZ (hw _ (List.mem_of_getElem? (i := 45) rfl))) (mvT hZ (hw _ (List.mem_of_getElem? (i := 46) rfl))) (notFace_of_selects (args := #[]) (mvT hZ (hw _ (List.mem_of_getElem? (i := 48) rfl)))) (mvT hZ (hw _ (List.mem_of_getElem? (i := 48) rfl))) (mvT hZ (hw _ (List.mem_of_getElem? (i := 47) rfl))) (by decide) (backOf (W := 0) (rm8 l Z a0 hw [] b13 (-1 : Int32) T14.heap n0 Z14 FI14) hZ (hw _ (List.mem_of_getElem? (i := 49) rfl)) (hw _ (List.mem_of_getElem? (i := 29) rfl)) (by decide) (by decide)) q15a q15c (g := (mkF m 71 #[.val (.int p0), .val (.int p1), .val (.int p2), .val (.int p3), .val (.ref b1), .val (.int (1 : Int32)), .val (.int (p1 &&& (2147483647 : Int32))), .val (.int (-1 : Int32)), .val (.ref b13), .val (.int (0 : Int32))] [(.ref b13)])) rfl (by rw [hml]; rfl) (Steps.refl _) (argsL := []) (rest := []) (lenOf pd_6 rfl) rfl (by show 2 * 0 + _ ≤ _; exact Nat.le_of_eq rfl) (hb hby at_71) (fun _ _ => ⟨rfl, rfl, (by decide : 3 + 0 ≤ _), (by decide : 8 + 0 ≤ _)⟩)
    dsimp only [Pt.U, Pt.locs, Pt.cells, Pt.slots] at X15 l15 y15 z15 st15 hQ15
    subst l15 y15 z15
    obtain ⟨rfl, N15q, e15⟩ := hQ15
    have N15 := Fr.app N14 N15q
    have hd76_16 : (if (-1 : Int32) = (-1 : Int32) then (0 : Int32) else (1 : Int32)) = (0 : Int32) := by (first | rfl | decide | (rw [if_neg (own_ix p1)]))
    obtain ⟨_, _, ⟨T17, L17, k17, n17⟩, -, X17, ⟨Lc17, hQ17, l17, y17, z17⟩, st17⟩ := Jvm.LawKit.callS X15 hx (y := (⟨"com/example/formula_to_count/formulatocount/FirstOrderCnf$Variable", "over", "(ILjava/lang/String;)Lcom/example/formula_to_count/formulatocount/FirstOrderCnf$Variable;"⟩ : MethodName)) hown (mvT hZ (hw _ (List.mem_of_getElem? (i := 50) rfl))) (mvT hZ (hw _ (List.mem_of_getElem? (i := 51) rfl))) (mvT hZ (hw _ (List.mem_of_getElem? (i := 29) rfl))) (mvT hZ (hw _ (List.mem_of_getElem? (i := 52) rfl))) (by decide) (backOf (W := 0) (rm9 l Z a0 hw [] p0 b1 T14.heap n0 Z14 ) hZ (hw _ (List.mem_of_getElem? (i := 52) rfl)) (hw _ (List.mem_of_getElem? (i := 29) rfl)) (by decide) (by decide)) (g := (mkF m 84 #[.val (.int p0), .val (.int p1), .val (.int p2), .val (.int p3), .val (.ref b1), .val (.int (1 : Int32)), .val (.int (p1 &&& (2147483647 : Int32))), .val (.int (-1 : Int32)), .val (.ref b13), .val (.int (0 : Int32))] [(.ref b1), (.int p0)])) rfl (by rw [hml]; rfl) (argsL := [(.int p0), (.ref b1)]) (rest := []) (lenOf pd_7 rfl) rfl (by show 2 * 0 + _ ≤ _; exact Nat.le_of_eq rfl) (hb hby at_84) (fun _ _ => ⟨rfl, e15, (by decide : 3 + 1 ≤ _), (by decide : 8 + 3 ≤ _)⟩)
    dsimp only [Pt.U, Pt.locs, Pt.cells, Pt.slots] at X17 l17 y17 z17 st17 hQ17
    subst l17 y17 z17
    obtain ⟨b17, rfl, N17q, K17q, EI17, FI17⟩ := hQ17
    have N17 := Fr.app N15 N17q
    have Z17 : n0 ≤ T17.heap.size := Nat.le_trans Z14 K17q.1
    obtain ⟨cq18, kq18, q18a, q18b, q18c⟩ := isOf hZ rfl EI17
    obtain ⟨_, _, ⟨T18, L18, k18, n18⟩, -, X18, ⟨Lc18, hQ18, l18, y18, z18⟩, st18⟩ := X17.virtualBack hx (y := (⟨"com/example/formula_to_count/formulatocount/FirstOrderCnf$Variable", "isNamed", "()Z"⟩ : MethodName)) (z := (⟨"com/example/formula_to_count/formulatocount/FirstOrderCnf$Variable", "isNamed", "()Z"⟩ : MethodName)) hown (mvT hZ (hw _ (List.mem_of_getElem? (i := 45) rfl))) (mvT hZ (hw _ (List.mem_of_getElem? (i := 46) rfl))) (notFace_of_selects (args := #[]) (mvT hZ (hw _ (List.mem_of_getElem? (i := 48) rfl)))) (mvT hZ (hw _ (List.mem_of_getElem? (i := 48) rfl))) (mvT hZ (hw _ (List.mem_of_getElem? (i := 47) rfl))) (by decide) (backOf (W := 0) (rm8 l Z a0 hw [] b17 (-1 : Int32) T17.heap n0 Z17 FI17) hZ (hw _ (List.mem_of_getElem? (i := 49) rfl)) (hw _ (List.mem_of_getElem? (i := 29) rfl)) (by decide) (by decide)) q18a q18c (g := (mkF m 87 #[.val (.int p0), .val (.int p1), .val (.int p2), .val (.int p3), .val (.ref b1), .val (.int (1 : Int32)), .val (.int (p1 &&& (2147483647 : Int32))), .val (.int (-1 : Int32)), .val (.ref b13), .val (.int (0 : Int32))] [(.ref b17)])) rfl (by rw [hml]; rfl) (Steps.refl _) (argsL := []) (rest := []) (lenOf pd_6 rfl) rfl (by show 2 * 0 + _ ≤ _; exact Nat.le_of_eq rfl) (hb hby at_87) (fun _ _ => ⟨rfl, rfl, (by decide : 4 + 0 ≤ _), (by decide : 11 + 0 ≤ _)⟩)
    dsimp only [Pt.U, Pt.locs, Pt.cells, Pt.slots] at X18 l18 y18 z18 st18 hQ18
    subst l18 y18 z18
    obtain ⟨rfl, N18q, e18⟩ := hQ18
    have N18 := Fr.app N17 N18q
    have hd90_19 : (if (-1 : Int32) = (-1 : Int32) then (0 : Int32) else (1 : Int32)) = (0 : Int32) := by (rw [if_pos rfl])
    obtain ⟨_, _, ⟨T20, L20, k20, n20⟩, -, X20, ⟨Lc20, hQ20, l20, y20, z20⟩, st20⟩ := Jvm.LawKit.callS X18 hx (y := (⟨"com/example/formula_to_count/formulatocount/FirstOrderCnf$Variable", "named", "(Ljava/lang/String;I)Lcom/example/formula_to_count/formulatocount/FirstOrderCnf$Variable;"⟩ : MethodName)) hown (mvT hZ (hw _ (List.mem_of_getElem? (i := 55) rfl))) (mvT hZ (hw _ (List.mem_of_getElem? (i := 56) rfl))) (mvT hZ (hw _ (List.mem_of_getElem? (i := 29) rfl))) (mvT hZ (hw _ (List.mem_of_getElem? (i := 57) rfl))) (by decide) (backOf (W := 0) (rm10 l Z a0 hw [] b1 (p1 &&& (2147483647 : Int32)) T17.heap n0 Z17 ) hZ (hw _ (List.mem_of_getElem? (i := 57) rfl)) (hw _ (List.mem_of_getElem? (i := 29) rfl)) (by decide) (by decide)) (g := (mkF m 99 #[.val (.int p0), .val (.int p1), .val (.int p2), .val (.int p3), .val (.ref b1), .val (.int (1 : Int32)), .val (.int (p1 &&& (2147483647 : Int32))), .val (.int (-1 : Int32)), .val (.ref b13), .val (.int (0 : Int32))] [(.int (p1 &&& (2147483647 : Int32))), (.ref b1)])) rfl (by rw [hml]; rfl) (argsL := [(.ref b1), (.int (p1 &&& (2147483647 : Int32)))]) (rest := []) (lenOf pd_8 rfl) rfl (by show 2 * 0 + _ ≤ _; exact Nat.le_of_eq rfl) (hb hby at_99) (fun _ _ => ⟨rfl, e18, (by decide : 4 + 1 ≤ _), (by decide : 11 + 3 ≤ _)⟩)
    dsimp only [Pt.U, Pt.locs, Pt.cells, Pt.slots] at X20 l20 y20 z20 st20 hQ20
    subst l20 y20 z20
    obtain ⟨b20, rfl, N20q, K20q, EI20, FI20⟩ := hQ20
    have N20 := Fr.app N18 N20q
    have Z20 : n0 ≤ T20.heap.size := Nat.le_trans Z17 K20q.1
    obtain ⟨cq21, kq21, q21a, q21b, q21c⟩ := isOf hZ rfl EI20
    obtain ⟨_, _, ⟨T21, L21, k21, n21⟩, -, X21, ⟨Lc21, hQ21, l21, y21, z21⟩, st21⟩ := X20.virtualBack hx (y := (⟨"com/example/formula_to_count/formulatocount/FirstOrderCnf$Variable", "isNamed", "()Z"⟩ : MethodName)) (z := (⟨"com/example/formula_to_count/formulatocount/FirstOrderCnf$Variable", "isNamed", "()Z"⟩ : MethodName)) hown (mvT hZ (hw _ (List.mem_of_getElem? (i := 45) rfl))) (mvT hZ (hw _ (List.mem_of_getElem? (i := 46) rfl))) (notFace_of_selects (args := #[]) (mvT hZ (hw _ (List.mem_of_getElem? (i := 48) rfl)))) (mvT hZ (hw _ (List.mem_of_getElem? (i := 48) rfl))) (mvT hZ (hw _ (List.mem_of_getElem? (i := 47) rfl))) (by decide) (backOf (W := 0) (rm8 l Z a0 hw [] b20 (p1 &&& (2147483647 : Int32)) T20.heap n0 Z20 FI20) hZ (hw _ (List.mem_of_getElem? (i := 49) rfl)) (hw _ (List.mem_of_getElem? (i := 29) rfl)) (by decide) (by decide)) q21a q21c (g := (mkF m 102 #[.val (.int p0), .val (.int p1), .val (.int p2), .val (.int p3), .val (.ref b1), .val (.int (1 : Int32)), .val (.int (p1 &&& (2147483647 : Int32))), .val (.int (-1 : Int32)), .val (.ref b13), .val (.int (0 : Int32))] [(.ref b20)])) rfl (by rw [hml]; rfl) (Steps.refl _) (argsL := []) (rest := []) (lenOf pd_6 rfl) rfl (by show 2 * 0 + _ ≤ _; exact Nat.le_of_eq rfl) (hb hby at_102) (fun _ _ => ⟨rfl, rfl, (by decide : 5 + 0 ≤ _), (by decide : 14 + 0 ≤ _)⟩)
    dsimp only [Pt.U, Pt.locs, Pt.cells, Pt.slots] at X21 l21 y21 z21 st21 hQ21
    subst l21 y21 z21
    obtain ⟨rfl, N21q, e21⟩ := hQ21
    have N21 := Fr.app N20 N21q
    obtain ⟨fs, hr, hrun, hended, hW, hsame⟩ := X21.leave (v := some (.int (nar .boolean (if (p1 &&& (2147483647 : Int32)) = (-1 : Int32) then (0 : Int32) else (1 : Int32))))) (fun h => by rw [Bd.returns] at h; cases h)
    refine ⟨_, _, ?_, hrun, hended, _, _, rfl, ?_, ⟨_, rfl⟩, hW, hsame.mono (by decide) (by decide)⟩
    · show Steps p.tables e below (T1.setTop (mkF m 17 #[.val (.int p0), .val (.int p1), .val (.int p2), .val (.int p3), .val (.ref b1), .unset, .unset, .unset, .unset, .unset] [])) _
      refine XS.iconst X1.here hx rfl (hb hby at_17) ?_
      show Steps p.tables e below (T1.setTop (mkF m 18 #[.val (.int p0), .val (.int p1), .val (.int p2), .val (.int p3), .val (.ref b1), .unset, .unset, .unset, .unset, .unset] [(.int (1 : Int32))])) _
      refine XS.goto X1.here hx rfl (pc0 := 18) (pc' := 22) rfl (hb hby at_18) (by decide) (by decide) ?_
      show Steps p.tables e below (T1.setTop (mkF m 22 #[.val (.int p0), .val (.int p1), .val (.int p2), .val (.int p3), .val (.ref b1), .unset, .unset, .unset, .unset, .unset] [(.int (1 : Int32))])) _
      refine XS.istore X1.here hx rfl (hb hby at_22) rfl (l' := #[.val (.int p0), .val (.int p1), .val (.int p2), .val (.int p3), .val (.ref b1), .val (.int (1 : Int32)), .unset, .unset, .unset, .unset]) rfl ?_
      show Steps p.tables e below (T1.setTop (mkF m 24 #[.val (.int p0), .val (.int p1), .val (.int p2), .val (.int p3), .val (.ref b1), .val (.int (1 : Int32)), .unset, .unset, .unset, .unset] [])) _
      refine XS.iloadN X1.here hx rfl (hb hby at_24) rfl ?_
      show Steps p.tables e below (T1.setTop (mkF m 25 #[.val (.int p0), .val (.int p1), .val (.int p2), .val (.int p3), .val (.ref b1), .val (.int (1 : Int32)), .unset, .unset, .unset, .unset] [(.int p1)])) _
      refine X1.ldcInt hx hown (mvT hZ (hw _ (List.mem_of_getElem? (i := 26) rfl))) (g := (mkF m 25 #[.val (.int p0), .val (.int p1), .val (.int p2), .val (.int p3), .val (.ref b1), .val (.int (1 : Int32)), .unset, .unset, .unset, .unset] [(.int p1)])) rfl (hb hby at_25) _ ?_
      show Steps p.tables e below (T1.setTop (mkF m 27 #[.val (.int p0), .val (.int p1), .val (.int p2), .val (.int p3), .val (.ref b1), .val (.int (1 : Int32)), .unset, .unset, .unset, .unset] [(.int (2147483647 : Int32)), (.int p1)])) _
      refine XS.iand X1.here hx rfl (hb hby at_27) rfl ?_
      show Steps p.tables e below (T1.setTop (mkF m 28 #[.val (.int p0), .val (.int p1), .val (.int p2), .val (.int p3), .val (.ref b1), .val (.int (1 : Int32)), .unset, .unset, .unset, .unset] [(.int (p1 &&& (2147483647 : Int32)))])) _
      refine XS.istore X1.here hx rfl (hb hby at_28) rfl (l' := #[.val (.int p0), .val (.int p1), .val (.int p2), .val (.int p3), .val (.ref b1), .val (.int (1 : Int32)), .val (.int (p1 &&& (2147483647 : Int32))), .unset, .unset, .unset]) rfl ?_
      show Steps p.tables e below (T1.setTop (mkF m 30 #[.val (.int p0), .val (.int p1), .val (.int p2), .val (.int p3), .val (.ref b1), .val (.int (1 : Int32)), .val (.int (p1 &&& (2147483647 : Int32))), .unset, .unset, .unset] [])) _
      refine XS.iload X1.here hx rfl (hb hby at_30) rfl ?_
      show Steps p.tables e below (T1.setTop (mkF m 32 #[.val (.int p0), .val (.int p1), .val (.int p2), .val (.int p3), .val (.ref b1), .val (.int (1 : Int32)), .val (.int (p1 &&& (2147483647 : Int32))), .unset, .unset, .unset] [(.int (1 : Int32))])) _
      refine XS.ifNo X1.here hx rfl (hb hby at_32) rfl ((if0 _ _).trans (feq (by decide : ¬ ((1 : Int32) = (0 : Int32)))).1) ?_
      show Steps p.tables e below (T1.setTop (mkF m 35 #[.val (.int p0), .val (.int p1), .val (.int p2), .val (.int p3), .val (.ref b1), .val (.int (1 : Int32)), .val (.int (p1 &&& (2147483647 : Int32))), .unset, .unset, .unset] [])) _
      refine XS.iconst X1.here hx rfl (hb hby at_35) ?_
      show Steps p.tables e below (T1.setTop (mkF m 36 #[.val (.int p0), .val (.int p1), .val (.int p2), .val (.int p3), .val (.ref b1), .val (.int (1 : Int32)), .val (.int (p1 &&& (2147483647 : Int32))), .unset, .unset, .unset] [(.int (-1 : Int32))])) _
      refine XS.goto X1.here hx rfl (pc0 := 36) (pc' := 41) rfl (hb hby at_36) (by decide) (by decide) ?_
      show Steps p.tables e below (T1.setTop (mkF m 41 #[.val (.int p0), .val (.int p1), .val (.int p2), .val (.int p3), .val (.ref b1), .val (.int (1 : Int32)), .val (.int (p1 &&& (2147483647 : Int32))), .unset, .unset, .unset] [(.int (-1 : Int32))])) _
      refine XS.istore X1.here hx rfl (hb hby at_41) rfl (l' := #[.val (.int p0), .val (.int p1), .val (.int p2), .val (.int p3), .val (.ref b1), .val (.int (1 : Int32)), .val (.int (p1 &&& (2147483647 : Int32))), .val (.int (-1 : Int32)), .unset, .unset]) rfl ?_
      show Steps p.tables e below (T1.setTop (mkF m 43 #[.val (.int p0), .val (.int p1), .val (.int p2), .val (.int p3), .val (.ref b1), .val (.int (1 : Int32)), .val (.int (p1 &&& (2147483647 : Int32))), .val (.int (-1 : Int32)), .unset, .unset] [])) _
      refine st13 _ ?_
      show Steps p.tables e below (T13.setTop (mkF m 46 #[.val (.int p0), .val (.int p1), .val (.int p2), .val (.int p3), .val (.ref b1), .val (.int (1 : Int32)), .val (.int (p1 &&& (2147483647 : Int32))), .val (.int (-1 : Int32)), .unset, .unset] [(.ref b13)])) _
      refine XS.dup X13.here hx rfl (hb hby at_46) rfl rfl ?_
      show Steps p.tables e below (T13.setTop (mkF m 47 #[.val (.int p0), .val (.int p1), .val (.int p2), .val (.int p3), .val (.ref b1), .val (.int (1 : Int32)), .val (.int (p1 &&& (2147483647 : Int32))), .val (.int (-1 : Int32)), .unset, .unset] [(.ref b13), (.ref b13)])) _
      refine XS.iloadN X13.here hx rfl (hb hby at_47) rfl ?_
      show Steps p.tables e below (T13.setTop (mkF m 48 #[.val (.int p0), .val (.int p1), .val (.int p2), .val (.int p3), .val (.ref b1), .val (.int (1 : Int32)), .val (.int (p1 &&& (2147483647 : Int32))), .val (.int (-1 : Int32)), .unset, .unset] [(.int p0), (.ref b13), (.ref b13)])) _
      refine XS.aload X13.here hx rfl (hb hby at_48) rfl rfl ?_
      show Steps p.tables e below (T13.setTop (mkF m 50 #[.val (.int p0), .val (.int p1), .val (.int p2), .val (.int p3), .val (.ref b1), .val (.int (1 : Int32)), .val (.int (p1 &&& (2147483647 : Int32))), .val (.int (-1 : Int32)), .unset, .unset] [(.ref b1), (.int p0), (.ref b13), (.ref b13)])) _
      refine XS.iload X13.here hx rfl (hb hby at_50) rfl ?_
      show Steps p.tables e below (T13.setTop (mkF m 52 #[.val (.int p0), .val (.int p1), .val (.int p2), .val (.int p3), .val (.ref b1), .val (.int (1 : Int32)), .val (.int (p1 &&& (2147483647 : Int32))), .val (.int (-1 : Int32)), .unset, .unset] [(.int (-1 : Int32)), (.ref b1), (.int p0), (.ref b13), (.ref b13)])) _
      refine st14.trans ?_
      show Steps p.tables e below (T14.setTop (mkF m 55 #[.val (.int p0), .val (.int p1), .val (.int p2), .val (.int p3), .val (.ref b1), .val (.int (1 : Int32)), .val (.int (p1 &&& (2147483647 : Int32))), .val (.int (-1 : Int32)), .unset, .unset] [(.ref b13)])) _
      refine XS.astore X14.here hx rfl (hb hby at_55) rfl rfl (l' := #[.val (.int p0), .val (.int p1), .val (.int p2), .val (.int p3), .val (.ref b1), .val (.int (1 : Int32)), .val (.int (p1 &&& (2147483647 : Int32))), .val (.int (-1 : Int32)), .val (.ref b13), .unset]) rfl ?_
      show Steps p.tables e below (T14.setTop (mkF m 57 #[.val (.int p0), .val (.int p1), .val (.int p2), .val (.int p3), .val (.ref b1), .val (.int (1 : Int32)), .val (.int (p1 &&& (2147483647 : Int32))), .val (.int (-1 : Int32)), .val (.ref b13), .unset] [])) _
      refine XS.iload X14.here hx rfl (hb hby at_57) rfl ?_
      show Steps p.tables e below (T14.setTop (mkF m 59 #[.val (.int p0), .val (.int p1), .val (.int p2), .val (.int p3), .val (.ref b1), .val (.int (1 : Int32)), .val (.int (p1 &&& (2147483647 : Int32))), .val (.int (-1 : Int32)), .val (.ref b13), .unset] [(.int (1 : Int32))])) _
      refine XS.ifYes X14.here hx rfl (pc0 := 59) (pc' := 66) rfl (hb hby at_59) rfl ((if0 _ _).trans (feq (by decide : ¬ ((1 : Int32) = (0 : Int32)))).2) (by decide) (by decide) ?_
      show Steps p.tables e below (T14.setTop (mkF m 66 #[.val (.int p0), .val (.int p1), .val (.int p2), .val (.int p3), .val (.ref b1), .val (.int (1 : Int32)), .val (.int (p1 &&& (2147483647 : Int32))), .val (.int (-1 : Int32)), .val (.ref b13), .unset] [])) _
      refine XS.iconst X14.here hx rfl (hb hby at_66) ?_
      show Steps p.tables e below (T14.setTop (mkF m 67 #[.val (.int p0), .val (.int p1), .val (.int p2), .val (.int p3), .val (.ref b1), .val (.int (1 : Int32)), .val (.int (p1 &&& (2147483647 : Int32))), .val (.int (-1 : Int32)), .val (.ref b13), .unset] [(.int (0 : Int32))])) _
      refine XS.istore X14.here hx rfl (hb hby at_67) rfl (l' := #[.val (.int p0), .val (.int p1), .val (.int p2), .val (.int p3), .val (.ref b1), .val (.int (1 : Int32)), .val (.int (p1 &&& (2147483647 : Int32))), .val (.int (-1 : Int32)), .val (.ref b13), .val (.int (0 : Int32))]) rfl ?_
      show Steps p.tables e below (T14.setTop (mkF m 69 #[.val (.int p0), .val (.int p1), .val (.int p2), .val (.int p3), .val (.ref b1), .val (.int (1 : Int32)), .val (.int (p1 &&& (2147483647 : Int32))), .val (.int (-1 : Int32)), .val (.ref b13), .val (.int (0 : Int32))] [])) _
      refine XS.aload X14.here hx rfl (hb hby at_69) rfl rfl ?_
      show Steps p.tables e below (T14.setTop (mkF m 71 #[.val (.int p0), .val (.int p1), .val (.int p2), .val (.int p3), .val (.ref b1), .val (.int (1 : Int32)), .val (.int (p1 &&& (2147483647 : Int32))), .val (.int (-1 : Int32)), .val (.ref b13), .val (.int (0 : Int32))] [(.ref b13)])) _
      refine st15.trans ?_
      refine XS.iload X15.here hx rfl (hb hby at_74) rfl ?_
      show Steps p.tables e below (T15.setTop (mkF m 76 #[.val (.int p0), .val (.int p1), .val (.int p2), .val (.int p3), .val (.ref b1), .val (.int (1 : Int32)), .val (.int (p1 &&& (2147483647 : Int32))), .val (.int (-1 : Int32)), .val (.ref b13), .val (.int (0 : Int32))] [(.int (0 : Int32)), (.int (if (-1 : Int32) = (-1 : Int32) then (0 : Int32) else (1 : Int32)))])) _
      refine XS.icmpYes X15.here hx rfl (pc0 := 76) (pc' := 81) rfl (hb hby at_76) rfl (teq hd76_16).1 (by decide) (by decide) ?_
      show Steps p.tables e below (T15.setTop (mkF m 81 #[.val (.int p0), .val (.int p1), .val (.int p2), .val (.int p3), .val (.ref b1), .val (.int (1 : Int32)), .val (.int (p1 &&& (2147483647 : Int32))), .val (.int (-1 : Int32)), .val (.ref b13), .val (.int (0 : Int32))] [])) _
      refine XS.iloadN X15.here hx rfl (hb hby at_81) rfl ?_
      show Steps p.tables e below (T15.setTop (mkF m 82 #[.val (.int p0), .val (.int p1), .val (.int p2), .val (.int p3), .val (.ref b1), .val (.int (1 : Int32)), .val (.int (p1 &&& (2147483647 : Int32))), .val (.int (-1 : Int32)), .val (.ref b13), .val (.int (0 : Int32))] [(.int p0)])) _
      refine XS.aload X15.here hx rfl (hb hby at_82) rfl rfl ?_
      show Steps p.tables e below (T15.setTop (mkF m 84 #[.val (.int p0), .val (.int p1), .val (.int p2), .val (.int p3), .val (.ref b1), .val (.int (1 : Int32)), .val (.int (p1 &&& (2147483647 : Int32))), .val (.int (-1 : Int32)), .val (.ref b13), .val (.int (0 : Int32))] [(.ref b1), (.int p0)])) _
      refine st17 _ ?_
      show Steps p.tables e below (T17.setTop (mkF m 87 #[.val (.int p0), .val (.int p1), .val (.int p2), .val (.int p3), .val (.ref b1), .val (.int (1 : Int32)), .val (.int (p1 &&& (2147483647 : Int32))), .val (.int (-1 : Int32)), .val (.ref b13), .val (.int (0 : Int32))] [(.ref b17)])) _
      refine st18.trans ?_
      show Steps p.tables e below (T18.setTop (mkF m 90 #[.val (.int p0), .val (.int p1), .val (.int p2), .val (.int p3), .val (.ref b1), .val (.int (1 : Int32)), .val (.int (p1 &&& (2147483647 : Int32))), .val (.int (-1 : Int32)), .val (.ref b13), .val (.int (0 : Int32))] [(.int (if (-1 : Int32) = (-1 : Int32) then (0 : Int32) else (1 : Int32)))])) _
      refine XS.ifYes X18.here hx rfl (pc0 := 90) (pc' := 95) rfl (hb hby at_90) rfl ((if0 _ _).trans (teq hd90_19).1) (by decide) (by decide) ?_
      show Steps p.tables e below (T18.setTop (mkF m 95 #[.val (.int p0), .val (.int p1), .val (.int p2), .val (.int p3), .val (.ref b1), .val (.int (1 : Int32)), .val (.int (p1 &&& (2147483647 : Int32))), .val (.int (-1 : Int32)), .val (.ref b13), .val (.int (0 : Int32))] [])) _
      refine XS.aload X18.here hx rfl (hb hby at_95) rfl rfl ?_
      show Steps p.tables e below (T18.setTop (mkF m 97 #[.val (.int p0), .val (.int p1), .val (.int p2), .val (.int p3), .val (.ref b1), .val (.int (1 : Int32)), .val (.int (p1 &&& (2147483647 : Int32))), .val (.int (-1 : Int32)), .val (.ref b13), .val (.int (0 : Int32))] [(.ref b1)])) _
      refine XS.iload X18.here hx rfl (hb hby at_97) rfl ?_
      show Steps p.tables e below (T18.setTop (mkF m 99 #[.val (.int p0), .val (.int p1), .val (.int p2), .val (.int p3), .val (.ref b1), .val (.int (1 : Int32)), .val (.int (p1 &&& (2147483647 : Int32))), .val (.int (-1 : Int32)), .val (.ref b13), .val (.int (0 : Int32))] [(.int (p1 &&& (2147483647 : Int32))), (.ref b1)])) _
      refine st20 _ ?_
      show Steps p.tables e below (T20.setTop (mkF m 102 #[.val (.int p0), .val (.int p1), .val (.int p2), .val (.int p3), .val (.ref b1), .val (.int (1 : Int32)), .val (.int (p1 &&& (2147483647 : Int32))), .val (.int (-1 : Int32)), .val (.ref b13), .val (.int (0 : Int32))] [(.ref b20)])) _
      refine st21.trans ?_
      show Steps p.tables e below (T21.setTop (mkF m 105 #[.val (.int p0), .val (.int p1), .val (.int p2), .val (.int p3), .val (.ref b1), .val (.int (1 : Int32)), .val (.int (p1 &&& (2147483647 : Int32))), .val (.int (-1 : Int32)), .val (.ref b13), .val (.int (0 : Int32))] [(.int (if (p1 &&& (2147483647 : Int32)) = (-1 : Int32) then (0 : Int32) else (1 : Int32)))])) _
      exact retN X21 hx (t := .boolean) Bd.returns (by simp) (hb hby at_105) hr
    · show Q0 Z p0 p1 p2 p3 cs h0 n0 _ T21.heap _
      rw [e21]
      exact ⟨by rw [if_neg (own_ix p1)]; rfl, N21⟩
set_option maxRecDepth 65536 in
set_option maxHeartbeats 40000000 in
theorem comes_1 {Post : Tables → Env → Array Value → State → Outcome → State → Prop} (hpost : ∀ tb e args s v u, (limb_1_1.after args s (.returned v) u = true ∧ limb_1_2.after args s (.returned v) u = true ∧ True) → FrameEnd s (.returned v) u (Jvm.fieldLocs frame_1_writes args s ++ Jvm.arrayLocs frame_1_arrays args s ++ Jvm.staticLocs frame_1_statics s) 24 128 → Post tb e args s (.returned v) u) :
    ArmFor flags0 classFile x code maxLocals ret World_1 tables_1 room_1 Calls_1 rest_1 Pre_1 Post := by
  intro l hfl _ _ p e ha hc hk s m args below hf hA hF happ hP
  obtain ⟨hcalls, hrest, hpre⟩ := hP
  obtain ⟨-, -, -, hnamed, -, -, -, hat⟩ := (Spec.applies_iff hf).mp happ
  obtain ⟨hg, hn⟩ := and_e (Cond.before_iff.mp (show (Jvm.Cond.and given_1 narrow_1).before args s = true from hpre))
  obtain ⟨g1, g2⟩ := and_e hg
  obtain ⟨g3, g4⟩ := and_e g2
  obtain ⟨g5, g6⟩ := and_e g4
  obtain ⟨g7, g8⟩ := and_e g6
  obtain ⟨w0, w1, w2, w3, rfl⟩ : ∃ w0 w1 w2 w3 : Value, args = #[w0, w1, w2, w3] := by
    have hs : args.size = 4 := by simpa [Cond.value, given_1] using g1
    obtain ⟨L⟩ := args
    match L, hs with
    | [w0, w1, w2, w3], _ => exact ⟨w0, w1, w2, w3, rfl⟩
  have hw := fun d (hd : d ∈ tables_1) => atoms_spec (ws := Jvm.Cond.code x code maxLocals ret :: tables_1) hat d (List.mem_cons_of_mem _ hd)
  have hfit : Fit s := fun {y c} hc i hi => by
    obtain ⟨ha, rfl⟩ := Array.getElem?_eq_some_iff.mp hc
    have q := List.all_eq_true.mp ((Array.all_eq_true_iff_forall_mem.mp hF) _ (Array.getElem_mem ha)) i (List.mem_range.mpr hi)
    simpa [Array.getElem?_eq_getElem hi] using q
  obtain ⟨hsets, hown0⟩ := atoms_of _ (rest_1_c_eq ▸ (show rest_1_c.before _ s = true from hrest))
  have hr0 := Cond.before_iff.mp hown0
  obtain ⟨i0, ei0⟩ := is_v g3
  obtain rfl : w0 = (.int i0) := Option.some.inj ei0
  obtain ⟨i1, ei1⟩ := is_v g5
  obtain rfl : w1 = (.int i1) := Option.some.inj ei1
  obtain ⟨i2, ei2⟩ := is_v g7
  obtain rfl : w2 = (.int i2) := Option.some.inj ei2
  obtain ⟨i3, ei3⟩ := is_v g8
  obtain rfl : w3 = (.int i3) := Option.some.inj ei3
  have cn3 := not_v (Cond.before_iff.mp (hsets _ (List.mem_of_getElem? (i := 2) rfl)))
  obtain ⟨cs7, ecs7⟩ := is_v (Cond.before_iff.mp (hsets _ (List.mem_of_getElem? (i := 1) rfl)))
  have SCS : Sta s s.heap "java/lang/String" "COMPACT_STRINGS" "Z" (.int cs7) := Sta.start ecs7 (Or.inl (hsets _ (List.mem_of_getElem? (i := 0) rfl)))
  have ccs : ¬ (cs7 = (0 : Int32)) := gotF (Cond.eq_ints ecs7 (Term.int_eval (0))) cn3
  obtain ⟨n, o, h1, h2, h3, _, L, rfl, ⟨rfl, N⟩, hq⟩ := rm0 l s _ hw tables_1 i0 i1 i2 i3 cs7 s.heap s.heap.size (Nat.le_refl _) SCS ccs p e ha hc hk s m _ below hf ((Spec.applies_iff_loose hf).mp happ).1 ⟨rfl, State.Warmed39.refl s, rfl⟩ trivial
  refine ⟨n, _, h1, h2, h3, hpost _ _ _ _ _ _ ⟨Cond.after_iff.mpr rfl, Cond.after_iff.mpr (eq_i res_at (Term.int_eval (1)) rfl), trivial⟩ ⟨hq.1, hq.2.1, (hq.2.2.sift fun y hy => Or.inr (N y hy)).mono (by decide) (by decide)⟩⟩
theorem main_1_1 : Claimed_1_1 := comes_1 fun _ _ _ _ _ _ h hF => ⟨h.1, hF⟩
theorem main_1_2 : Claimed_1_2 := comes_1 fun _ _ _ _ _ _ h hF => ⟨h.2.1, hF⟩
end Jvm.Pilot.@@N@@
namespace Jvm.Pilot.@@N@@
open Jvm Jvm.ClassFile Sem Op Lib Jvm.Free Jvm.Stand Jvm.Pilot.@@N@@.Jvm.D
/-! MADE BY PROGRAM (witnessworld.py) out of the Statement's table words and the real class files: 18 classes; the members and pool entries that the words name. The judged class is class 1, her method 1. -/
namespace start1
open Jvm.ClassFile
def u (s : String) : CpInfo := .utf8 (stringToUtf16 s)
/-- a pool by its gaps: so many unusable entries, then the entry; so many at the end -/
def gap : Nat → List CpInfo → List CpInfo
  | 0, r => r
  | n + 1, r => .unusable :: gap n r
def poolList (es : List (Nat × CpInfo)) (last : Nat) : List CpInfo := es.foldr (fun e r => gap e.1 (e.2 :: r)) (gap last [])
def pool (es : List (Nat × CpInfo)) (last : Nat) : Array CpInfo := ⟨poolList es last⟩
def fileOf (pool : Array CpInfo) (this : Nat) (attrs : Array Attribute := #[]) (ms : Array MethodInfo := #[]) (fl : Nat := 33) (sup : Nat := 0) (ifs : Array Nat := #[]) (fds : Array FieldInfo := #[]) : ClassFile where
  minorVersion := 0
  majorVersion := 65
  constantPool := pool
  accessFlags := fl
  thisClass := this
  superClass := sup
  interfaces := ifs
  fields := fds
  methods := ms
  attributes := attrs
def plain (name : String) (sup : Option ClassId) : Class where
  name := name
  kind := .ordinary
  loader := none
  accessFlags := 33
  super := sup
  interfaces := #[]
  cf := none
  fields := #[]
  methods := #[]
  instanceTypes := #[]
  staticTypes := #[]
  resolved := #[]
  callSites := []
  init := .initialized
  statics := none
  mirror := none

def pool0 : Array CpInfo := pool [(5, u "<init>"), (0, u "()V"), (1, .class_ 10), (1, u "java/lang/Object")] 113

def k0c0 : Code := { maxStack := 0, maxLocals := 1, code := object_method_1_code, exceptionTable := #[], attributes := #[] }
def k0m0 : Method := { name := "<init>", desc := "()V", sig := { parameters := [], returnType := none }, accessFlags := 1, code := some k0c0 }
/-- java/lang/Object -/
def k0 : Class := { plain "java/lang/Object" none with
  accessFlags := 33
  interfaces := #[]
  cf := some (fileOf pool0 8 #[] #[{ accessFlags := 1, nameIndex := 5, descriptorIndex := 6, attributes := #[] }] 33 0 #[] #[])
  fields := #[]
  methods := #[k0m0]
  instanceTypes := #[]
  staticTypes := #[]
  resolved := Array.replicate 124 none
  statics := none }

def pool1 : Array CpInfo := pool [(2, .class_ 4), (1, u "java/lang/Object"), (0, u "<init>"), (0, u "()V"), (0, .methodref 8 9), (0, .class_ 10), (0, .nameAndType 11 12), (0, u "java/lang/String"), (0, u "valueOf"), (0, u "(C)Ljava/lang/String;"), (0, .integer 2147483647), (0, .class_ 15), (0, u "com/example/formula_to_count/formulatocount/FirstOrderCnf$Variable"), (0, .methodref 14 17), (0, .nameAndType 5 18), (0, u "(ILjava/lang/String;I)V"), (0, .methodref 14 20), (0, .nameAndType 21 22), (0, u "isNamed"), (0, u "()Z"), (0, .methodref 14 24), (0, .nameAndType 25 26), (0, u "over"), (0, u "(ILjava/lang/String;)Lcom/example/formula_to_count/formulatocount/FirstOrderCnf$Variable;"), (0, .methodref 14 28), (0, .nameAndType 29 30), (0, u "named"), (0, u "(Ljava/lang/String;I)Lcom/example/formula_to_count/formulatocount/FirstOrderCnf$Variable;"), (0, .class_ 32), (0, u "com/example/formula_to_count/formulatocount/VariableIsNamedPinLaw"), (2, u "law"), (0, u "(IIII)Z")] 7

def k1m0 : Method := { name := "<init>", desc := "()V", sig := { parameters := [], returnType := none }, accessFlags := 1, code := none }
def k1c1 : Code := { maxStack := 5, maxLocals := 10, code := code, exceptionTable := #[], attributes := #[] }
def k1m1 : Method := { name := "law", desc := "(IIII)Z", sig := { parameters := [.int, .int, .int, .int], returnType := some .boolean }, accessFlags := 9, code := some k1c1 }
/-- com/example/formula_to_count/formulatocount/VariableIsNamedPinLaw -/
def k1 : Class := { plain "com/example/formula_to_count/formulatocount/VariableIsNamedPinLaw" (some 0) with
  accessFlags := 49
  interfaces := #[]
  cf := some (fileOf pool1 31 #[] #[{ accessFlags := 1, nameIndex := 5, descriptorIndex := 6, attributes := #[] }, { accessFlags := 9, nameIndex := 35, descriptorIndex := 36, attributes := #[] }] 49 2 #[] #[])
  fields := #[]
  methods := #[k1m0, k1m1]
  instanceTypes := #[]
  staticTypes := #[]
  resolved := Array.replicate 44 none
  statics := none }

def pool2 : Array CpInfo := pool [(1, .class_ 2), (0, u "java/io/Serializable"), (0, .class_ 4), (0, u "java/lang/Object")] 2

/-- java/io/Serializable -/
def k2 : Class := { plain "java/io/Serializable" (some 0) with
  accessFlags := 1537
  interfaces := #[]
  cf := some (fileOf pool2 1 #[] #[] 1537 3 #[] #[])
  fields := #[]
  methods := #[]
  instanceTypes := #[]
  staticTypes := #[]
  resolved := Array.replicate 7 none
  statics := none }

def pool3 : Array CpInfo := pool [(1, .class_ 2), (0, u "java/lang/Comparable"), (0, .class_ 4), (0, u "java/lang/Object")] 7

/-- java/lang/Comparable -/
def k3 : Class := { plain "java/lang/Comparable" (some 0) with
  accessFlags := 1537
  interfaces := #[]
  cf := some (fileOf pool3 1 #[] #[] 1537 3 #[] #[])
  fields := #[]
  methods := #[]
  instanceTypes := #[]
  staticTypes := #[]
  resolved := Array.replicate 12 none
  statics := none }

def pool4 : Array CpInfo := pool [(2, .class_ 4), (1, u "java/lang/CharSequence"), (42, .class_ 48), (0, u "java/lang/CharSequence$1CodePointIterator"), (10, .class_ 60), (0, u "java/lang/CharSequence$1CharIterator"), (5, .class_ 67), (0, u "java/lang/Object")] 63

/-- java/lang/CharSequence -/
def k4 : Class := { plain "java/lang/CharSequence" (some 0) with
  accessFlags := 1537
  interfaces := #[]
  cf := some (fileOf pool4 2 #[.nestMembers #[47, 59]] #[] 1537 66 #[] #[])
  fields := #[]
  methods := #[]
  instanceTypes := #[]
  staticTypes := #[]
  resolved := Array.replicate 131 none
  statics := none }

def pool5 : Array CpInfo := pool [(1, .class_ 2), (0, u "java/lang/constant/Constable"), (0, .class_ 4), (0, u "java/lang/Object")] 6

/-- java/lang/constant/Constable -/
def k5 : Class := { plain "java/lang/constant/Constable" (some 0) with
  accessFlags := 1537
  interfaces := #[]
  cf := some (fileOf pool5 1 #[] #[] 1537 3 #[] #[])
  fields := #[]
  methods := #[]
  instanceTypes := #[]
  staticTypes := #[]
  resolved := Array.replicate 11 none
  statics := none }

def pool6 : Array CpInfo := pool [(1, .class_ 2), (0, u "java/lang/constant/ConstantDesc"), (0, .class_ 4), (0, u "java/lang/Object")] 32

/-- java/lang/constant/ConstantDesc -/
def k6 : Class := { plain "java/lang/constant/ConstantDesc" (some 0) with
  accessFlags := 1537
  interfaces := #[]
  cf := some (fileOf pool6 1 #[] #[] 1537 3 #[] #[])
  fields := #[]
  methods := #[]
  instanceTypes := #[]
  staticTypes := #[]
  resolved := Array.replicate 37 none
  statics := none }

def pool7 : Array CpInfo := pool [(1, .methodref 2 3), (0, .class_ 4), (0, .nameAndType 5 6), (0, u "java/lang/Object"), (0, u "<init>"), (0, u "()V"), (2, .fieldref 10 11), (0, .class_ 12), (0, .nameAndType 13 14), (0, u "java/lang/String"), (0, u "value"), (0, u "[B"), (0, .fieldref 10 16), (0, .nameAndType 17 18), (0, u "coder"), (0, u "B"), (2, u "hash"), (0, u "I"), (2, u "hashIsZero"), (0, u "Z"), (11, .fieldref 10 39), (0, .nameAndType 40 26), (0, u "COMPACT_STRINGS"), (12, u "toBytes"), (53, .class_ 109), (1, u "java/lang/StringLatin1"), (99, .methodref 10 210), (0, .nameAndType 5 211), (0, u "([BB)V"), (157, u "(C)Z"), (205, .class_ 576), (0, u "java/lang/CharSequence"), (22, u "CASE_INSENSITIVE_ORDER"), (0, u "Ljava/util/Comparator;"), (181, u "valueOf"), (0, u "(C)Ljava/lang/String;"), (231, .methodref 107 1016), (0, .nameAndType 1017 369), (0, u "canEncode"), (0, .methodref 107 1019), (0, .nameAndType 53 1020), (0, u "(C)[B"), (80, u "serialPersistentFields"), (0, u "[Ljava/io/ObjectStreamField;"), (0, .class_ 1104), (0, u "java/lang/String$CaseInsensitiveComparator"), (1, .class_ 1107), (0, u "java/io/Serializable"), (0, .class_ 1109), (0, u "java/lang/Comparable"), (0, .class_ 1111), (0, u "java/lang/constant/Constable"), (0, .class_ 1113), (0, u "java/lang/constant/ConstantDesc"), (2, u "serialVersionUID"), (0, u "J"), (3, u "REPL"), (0, u "C"), (2, u "LATIN1"), (1, u "UTF16")] 323

def k7m0 : Method := { name := "<init>", desc := "()V", sig := { parameters := [], returnType := none }, accessFlags := 1, code := none }
def k7c1 : Code := { maxStack := 4, maxLocals := 1, code := jdk_42_method_139_code, exceptionTable := #[], attributes := #[] }
def k7m1 : Method := { name := "valueOf", desc := "(C)Ljava/lang/String;", sig := { parameters := [.char], returnType := some (.object "java/lang/String") }, accessFlags := 9, code := some k7c1 }
def k7c2 : Code := { maxStack := 2, maxLocals := 3, code := jdk_42_method_151_code, exceptionTable := #[], attributes := #[] }
def k7m2 : Method := { name := "<init>", desc := "([BB)V", sig := { parameters := [(.array .byte), .byte], returnType := none }, accessFlags := 0, code := some k7c2 }
/-- java/lang/String -/
def k7 : Class := { plain "java/lang/String" (some 0) with
  accessFlags := 49
  interfaces := #[2, 3, 4, 5, 6]
  cf := some (fileOf pool7 10 #[.nestMembers #[1103]] #[{ accessFlags := 1, nameIndex := 5, descriptorIndex := 6, attributes := #[] }, { accessFlags := 9, nameIndex := 782, descriptorIndex := 783, attributes := #[] }, { accessFlags := 0, nameIndex := 5, descriptorIndex := 211, attributes := #[] }] 49 2 #[1106, 1108, 575, 1110, 1112] #[{ accessFlags := 18, nameIndex := 13, descriptorIndex := 14, attributes := #[] }, { accessFlags := 18, nameIndex := 17, descriptorIndex := 18, attributes := #[] }, { accessFlags := 2, nameIndex := 21, descriptorIndex := 22, attributes := #[] }, { accessFlags := 2, nameIndex := 25, descriptorIndex := 26, attributes := #[] }, { accessFlags := 26, nameIndex := 1116, descriptorIndex := 1117, attributes := #[] }, { accessFlags := 24, nameIndex := 40, descriptorIndex := 26, attributes := #[] }, { accessFlags := 26, nameIndex := 1101, descriptorIndex := 1102, attributes := #[] }, { accessFlags := 26, nameIndex := 1121, descriptorIndex := 1122, attributes := #[] }, { accessFlags := 25, nameIndex := 599, descriptorIndex := 600, attributes := #[] }, { accessFlags := 24, nameIndex := 1125, descriptorIndex := 18, attributes := #[] }, { accessFlags := 24, nameIndex := 1127, descriptorIndex := 18, attributes := #[] }])
  fields := #[{ name := "value", type := (.array .byte), accessFlags := 18, slot := 0, constantValue := 0 }, { name := "coder", type := .byte, accessFlags := 18, slot := 1, constantValue := 0 }, { name := "hash", type := .int, accessFlags := 2, slot := 2, constantValue := 0 }, { name := "hashIsZero", type := .boolean, accessFlags := 2, slot := 3, constantValue := 0 }, { name := "serialVersionUID", type := .long, accessFlags := 26, slot := 0, constantValue := 0 }, { name := "COMPACT_STRINGS", type := .boolean, accessFlags := 24, slot := 1, constantValue := 0 }, { name := "serialPersistentFields", type := (.array (.object "java/io/ObjectStreamField")), accessFlags := 26, slot := 2, constantValue := 0 }, { name := "REPL", type := .char, accessFlags := 26, slot := 3, constantValue := 0 }, { name := "CASE_INSENSITIVE_ORDER", type := (.object "java/util/Comparator"), accessFlags := 25, slot := 4, constantValue := 0 }, { name := "LATIN1", type := .byte, accessFlags := 24, slot := 5, constantValue := 0 }, { name := "UTF16", type := .byte, accessFlags := 24, slot := 6, constantValue := 0 }]
  methods := #[k7m0, k7m1, k7m2]
  instanceTypes := #[(.array .byte), .byte, .int, .boolean]
  staticTypes := #[.long, .boolean, (.array (.object "java/io/ObjectStreamField")), .char, (.object "java/util/Comparator"), .byte, .byte]
  resolved := Array.replicate 1451 none
  statics := some 0 }

def pool8 : Array CpInfo := pool [(4, .class_ 6), (1, u "java/lang/Object"), (0, u "<init>"), (0, u "()V"), (5, .class_ 16), (1, u "java/lang/StringLatin1"), (73, u "canEncode"), (14, u "(C)Z"), (15, u "$assertionsDisabled"), (0, u "Z"), (98, .class_ 223), (1, u "java/lang/StringLatin1$LinesSpliterator"), (156, u "toBytes"), (1, u "(C)[B"), (7, .class_ 391), (0, u "java/lang/StringLatin1$CharsSpliterator")] 3

def k8m0 : Method := { name := "<init>", desc := "()V", sig := { parameters := [], returnType := none }, accessFlags := 0, code := none }
def k8c1 : Code := { maxStack := 2, maxLocals := 1, code := jdk_43_method_3_code, exceptionTable := #[], attributes := #[] }
def k8m1 : Method := { name := "canEncode", desc := "(C)Z", sig := { parameters := [.char], returnType := some .boolean }, accessFlags := 9, code := some k8c1 }
def k8c2 : Code := { maxStack := 4, maxLocals := 1, code := jdk_43_method_46_code, exceptionTable := #[], attributes := #[] }
def k8m2 : Method := { name := "toBytes", desc := "(C)[B", sig := { parameters := [.char], returnType := some (.array .byte) }, accessFlags := 9, code := some k8c2 }
/-- java/lang/StringLatin1 -/
def k8 : Class := { plain "java/lang/StringLatin1" (some 0) with
  accessFlags := 48
  interfaces := #[]
  cf := some (fileOf pool8 14 #[.nestMembers #[390, 221]] #[{ accessFlags := 0, nameIndex := 7, descriptorIndex := 8, attributes := #[] }, { accessFlags := 9, nameIndex := 90, descriptorIndex := 105, attributes := #[] }, { accessFlags := 9, nameIndex := 380, descriptorIndex := 382, attributes := #[] }] 48 4 #[] #[{ accessFlags := 4120, nameIndex := 121, descriptorIndex := 122, attributes := #[] }])
  fields := #[{ name := "$assertionsDisabled", type := .boolean, accessFlags := 4120, slot := 0, constantValue := 0 }]
  methods := #[k8m0, k8m1, k8m2]
  instanceTypes := #[]
  staticTypes := #[.boolean]
  resolved := Array.replicate 395 none
  statics := none }

def pool9 : Array CpInfo := pool [(1, .methodref 2 3), (0, .class_ 4), (0, .nameAndType 5 6), (0, u "java/lang/Object"), (0, u "<init>"), (0, u "()V"), (0, .class_ 8), (0, u "java/lang/Record")] 13

def k9c0 : Code := { maxStack := 1, maxLocals := 1, code := jdk_30_method_1_code, exceptionTable := #[], attributes := #[] }
def k9m0 : Method := { name := "<init>", desc := "()V", sig := { parameters := [], returnType := none }, accessFlags := 4, code := some k9c0 }
/-- java/lang/Record -/
def k9 : Class := { plain "java/lang/Record" (some 0) with
  accessFlags := 1057
  interfaces := #[]
  cf := some (fileOf pool9 7 #[] #[{ accessFlags := 4, nameIndex := 5, descriptorIndex := 6, attributes := #[] }] 1057 2 #[] #[])
  fields := #[]
  methods := #[k9m0]
  instanceTypes := #[]
  staticTypes := #[]
  resolved := Array.replicate 22 none
  statics := none }

def pool10 : Array CpInfo := pool [(1, .methodref 2 3), (0, .class_ 4), (0, .nameAndType 5 6), (0, u "java/lang/Record"), (0, u "<init>"), (0, u "()V"), (0, .fieldref 8 9), (0, .class_ 10), (0, .nameAndType 11 12), (0, u "com/example/formula_to_count/formulatocount/FirstOrderCnf$Variable"), (0, u "id"), (0, u "I"), (0, .fieldref 8 14), (0, .nameAndType 15 16), (0, u "domain"), (0, u "Ljava/lang/String;"), (0, .fieldref 8 18), (0, .nameAndType 19 12), (0, u "element"), (0, .methodref 8 21), (0, .nameAndType 5 22), (0, u "(ILjava/lang/String;I)V"), (12, u "ANY"), (5, u "over"), (0, u "(ILjava/lang/String;)Lcom/example/formula_to_count/formulatocount/FirstOrderCnf$Variable;"), (0, u "named"), (0, u "(Ljava/lang/String;I)Lcom/example/formula_to_count/formulatocount/FirstOrderCnf$Variable;"), (0, u "isNamed"), (0, u "()Z"), (7, .class_ 55), (0, u "com/example/formula_to_count/formulatocount/FirstOrderCnf")] 21

def k10c0 : Code := { maxStack := 2, maxLocals := 4, code := prog_33_method_1_code, exceptionTable := #[], attributes := #[] }
def k10m0 : Method := { name := "<init>", desc := "(ILjava/lang/String;I)V", sig := { parameters := [.int, (.object "java/lang/String"), .int], returnType := none }, accessFlags := 0, code := some k10c0 }
def k10c1 : Code := { maxStack := 5, maxLocals := 2, code := prog_33_method_2_code, exceptionTable := #[], attributes := #[] }
def k10m1 : Method := { name := "over", desc := "(ILjava/lang/String;)Lcom/example/formula_to_count/formulatocount/FirstOrderCnf$Variable;", sig := { parameters := [.int, (.object "java/lang/String")], returnType := some (.object "com/example/formula_to_count/formulatocount/FirstOrderCnf$Variable") }, accessFlags := 8, code := some k10c1 }
def k10c2 : Code := { maxStack := 5, maxLocals := 2, code := prog_33_method_3_code, exceptionTable := #[], attributes := #[] }
def k10m2 : Method := { name := "named", desc := "(Ljava/lang/String;I)Lcom/example/formula_to_count/formulatocount/FirstOrderCnf$Variable;", sig := { parameters := [(.object "java/lang/String"), .int], returnType := some (.object "com/example/formula_to_count/formulatocount/FirstOrderCnf$Variable") }, accessFlags := 8, code := some k10c2 }
def k10c3 : Code := { maxStack := 2, maxLocals := 1, code := prog_33_method_4_code, exceptionTable := #[], attributes := #[] }
def k10m3 : Method := { name := "isNamed", desc := "()Z", sig := { parameters := [], returnType := some .boolean }, accessFlags := 0, code := some k10c3 }
/-- com/example/formula_to_count/formulatocount/FirstOrderCnf$Variable -/
def k10 : Class := { plain "com/example/formula_to_count/formulatocount/FirstOrderCnf$Variable" (some 9) with
  accessFlags := 48
  interfaces := #[]
  cf := some (fileOf pool10 8 #[.nestHost 54] #[{ accessFlags := 0, nameIndex := 5, descriptorIndex := 22, attributes := #[] }, { accessFlags := 8, nameIndex := 41, descriptorIndex := 42, attributes := #[] }, { accessFlags := 8, nameIndex := 43, descriptorIndex := 44, attributes := #[] }, { accessFlags := 0, nameIndex := 45, descriptorIndex := 46, attributes := #[] }] 48 2 #[] #[{ accessFlags := 18, nameIndex := 11, descriptorIndex := 12, attributes := #[] }, { accessFlags := 18, nameIndex := 15, descriptorIndex := 16, attributes := #[] }, { accessFlags := 18, nameIndex := 19, descriptorIndex := 12, attributes := #[] }, { accessFlags := 26, nameIndex := 35, descriptorIndex := 12, attributes := #[] }])
  fields := #[{ name := "id", type := .int, accessFlags := 18, slot := 0, constantValue := 0 }, { name := "domain", type := (.object "java/lang/String"), accessFlags := 18, slot := 1, constantValue := 0 }, { name := "element", type := .int, accessFlags := 18, slot := 2, constantValue := 0 }, { name := "ANY", type := .int, accessFlags := 26, slot := 0, constantValue := 0 }]
  methods := #[k10m0, k10m1, k10m2, k10m3]
  instanceTypes := #[.int, (.object "java/lang/String"), .int]
  staticTypes := #[.int]
  resolved := Array.replicate 77 none
  statics := none }

def pool11 : Array CpInfo := pool [(2, .class_ 4), (1, u "java/lang/Object"), (0, u "<init>"), (0, u "()V"), (17, .class_ 26), (1, u "jdk/internal/util/Preconditions"), (28, .class_ 56), (0, u "jdk/internal/util/Preconditions$4"), (57, .class_ 115), (0, u "jdk/internal/util/Preconditions$1"), (7, u "SIOOBE_FORMATTER"), (0, u "Ljava/util/function/BiFunction;"), (0, .class_ 126), (0, u "jdk/internal/util/Preconditions$2"), (3, u "AIOOBE_FORMATTER"), (0, .class_ 132), (0, u "jdk/internal/util/Preconditions$3"), (3, u "IOOBE_FORMATTER")] 57

def k11m0 : Method := { name := "<init>", desc := "()V", sig := { parameters := [], returnType := none }, accessFlags := 1, code := none }
/-- jdk/internal/util/Preconditions -/
def k11 : Class := { plain "jdk/internal/util/Preconditions" (some 0) with
  accessFlags := 33
  interfaces := #[]
  cf := some (fileOf pool11 24 #[.nestMembers #[55, 131, 125, 114]] #[{ accessFlags := 1, nameIndex := 5, descriptorIndex := 6, attributes := #[] }] 33 2 #[] #[{ accessFlags := 25, nameIndex := 123, descriptorIndex := 124, attributes := #[] }, { accessFlags := 25, nameIndex := 130, descriptorIndex := 124, attributes := #[] }, { accessFlags := 25, nameIndex := 136, descriptorIndex := 124, attributes := #[] }])
  fields := #[{ name := "SIOOBE_FORMATTER", type := (.object "java/util/function/BiFunction"), accessFlags := 25, slot := 0, constantValue := 0 }, { name := "AIOOBE_FORMATTER", type := (.object "java/util/function/BiFunction"), accessFlags := 25, slot := 1, constantValue := 0 }, { name := "IOOBE_FORMATTER", type := (.object "java/util/function/BiFunction"), accessFlags := 25, slot := 2, constantValue := 0 }]
  methods := #[k11m0]
  instanceTypes := #[]
  staticTypes := #[(.object "java/util/function/BiFunction"), (.object "java/util/function/BiFunction"), (.object "java/util/function/BiFunction")]
  resolved := Array.replicate 194 none
  statics := some 1 }

def pool12 : Array CpInfo := pool [(9, u "<init>"), (6, .class_ 18), (1, u "java/lang/Object"), (0, u "()V"), (1, .class_ 23), (1, u "jdk/internal/util/ArraysSupport"), (0, u "LOG2_ARRAY_LONG_INDEX_SCALE"), (0, u "I"), (2, u "U"), (0, u "Ljdk/internal/misc/Unsafe;"), (8, u "BIG_ENDIAN"), (0, u "Z"), (8, u "LOG2_BYTE_BIT_SIZE"), (4, u "LOG2_ARRAY_INT_INDEX_SCALE"), (54, u "JLA"), (0, u "Ljdk/internal/access/JavaLangAccess;"), (11, u "LOG2_ARRAY_BOOLEAN_INDEX_SCALE"), (9, u "LOG2_ARRAY_BYTE_INDEX_SCALE"), (5, u "LOG2_ARRAY_CHAR_INDEX_SCALE"), (5, u "LOG2_ARRAY_SHORT_INDEX_SCALE"), (18, u "LOG2_ARRAY_FLOAT_INDEX_SCALE"), (24, u "LOG2_ARRAY_DOUBLE_INDEX_SCALE"), (89, u "T_BOOLEAN"), (2, u "T_CHAR"), (1, u "T_FLOAT"), (1, u "T_DOUBLE"), (1, u "T_BYTE"), (1, u "T_SHORT"), (1, u "T_INT"), (1, u "T_LONG"), (1, u "SOFT_MAX_ARRAY_LENGTH")] 83

def k12m0 : Method := { name := "<init>", desc := "()V", sig := { parameters := [], returnType := none }, accessFlags := 2, code := none }
/-- jdk/internal/util/ArraysSupport -/
def k12 : Class := { plain "jdk/internal/util/ArraysSupport" (some 0) with
  accessFlags := 33
  interfaces := #[]
  cf := some (fileOf pool12 21 #[] #[{ accessFlags := 2, nameIndex := 9, descriptorIndex := 19, attributes := #[] }] 33 16 #[] #[{ accessFlags := 24, nameIndex := 28, descriptorIndex := 29, attributes := #[] }, { accessFlags := 26, nameIndex := 38, descriptorIndex := 39, attributes := #[] }, { accessFlags := 25, nameIndex := 121, descriptorIndex := 25, attributes := #[] }, { accessFlags := 25, nameIndex := 131, descriptorIndex := 25, attributes := #[] }, { accessFlags := 25, nameIndex := 137, descriptorIndex := 25, attributes := #[] }, { accessFlags := 25, nameIndex := 143, descriptorIndex := 25, attributes := #[] }, { accessFlags := 25, nameIndex := 53, descriptorIndex := 25, attributes := #[] }, { accessFlags := 25, nameIndex := 24, descriptorIndex := 25, attributes := #[] }, { accessFlags := 25, nameIndex := 162, descriptorIndex := 25, attributes := #[] }, { accessFlags := 25, nameIndex := 187, descriptorIndex := 25, attributes := #[] }, { accessFlags := 26, nameIndex := 48, descriptorIndex := 25, attributes := #[] }, { accessFlags := 25, nameIndex := 277, descriptorIndex := 25, attributes := #[] }, { accessFlags := 25, nameIndex := 280, descriptorIndex := 25, attributes := #[] }, { accessFlags := 25, nameIndex := 282, descriptorIndex := 25, attributes := #[] }, { accessFlags := 25, nameIndex := 284, descriptorIndex := 25, attributes := #[] }, { accessFlags := 25, nameIndex := 286, descriptorIndex := 25, attributes := #[] }, { accessFlags := 25, nameIndex := 288, descriptorIndex := 25, attributes := #[] }, { accessFlags := 25, nameIndex := 290, descriptorIndex := 25, attributes := #[] }, { accessFlags := 25, nameIndex := 292, descriptorIndex := 25, attributes := #[] }, { accessFlags := 26, nameIndex := 108, descriptorIndex := 109, attributes := #[] }, { accessFlags := 25, nameIndex := 294, descriptorIndex := 25, attributes := #[] }])
  fields := #[{ name := "U", type := (.object "jdk/internal/misc/Unsafe"), accessFlags := 24, slot := 0, constantValue := 0 }, { name := "BIG_ENDIAN", type := .boolean, accessFlags := 26, slot := 1, constantValue := 0 }, { name := "LOG2_ARRAY_BOOLEAN_INDEX_SCALE", type := .int, accessFlags := 25, slot := 2, constantValue := 0 }, { name := "LOG2_ARRAY_BYTE_INDEX_SCALE", type := .int, accessFlags := 25, slot := 3, constantValue := 0 }, { name := "LOG2_ARRAY_CHAR_INDEX_SCALE", type := .int, accessFlags := 25, slot := 4, constantValue := 0 }, { name := "LOG2_ARRAY_SHORT_INDEX_SCALE", type := .int, accessFlags := 25, slot := 5, constantValue := 0 }, { name := "LOG2_ARRAY_INT_INDEX_SCALE", type := .int, accessFlags := 25, slot := 6, constantValue := 0 }, { name := "LOG2_ARRAY_LONG_INDEX_SCALE", type := .int, accessFlags := 25, slot := 7, constantValue := 0 }, { name := "LOG2_ARRAY_FLOAT_INDEX_SCALE", type := .int, accessFlags := 25, slot := 8, constantValue := 0 }, { name := "LOG2_ARRAY_DOUBLE_INDEX_SCALE", type := .int, accessFlags := 25, slot := 9, constantValue := 0 }, { name := "LOG2_BYTE_BIT_SIZE", type := .int, accessFlags := 26, slot := 10, constantValue := 0 }, { name := "T_BOOLEAN", type := .int, accessFlags := 25, slot := 11, constantValue := 0 }, { name := "T_CHAR", type := .int, accessFlags := 25, slot := 12, constantValue := 0 }, { name := "T_FLOAT", type := .int, accessFlags := 25, slot := 13, constantValue := 0 }, { name := "T_DOUBLE", type := .int, accessFlags := 25, slot := 14, constantValue := 0 }, { name := "T_BYTE", type := .int, accessFlags := 25, slot := 15, constantValue := 0 }, { name := "T_SHORT", type := .int, accessFlags := 25, slot := 16, constantValue := 0 }, { name := "T_INT", type := .int, accessFlags := 25, slot := 17, constantValue := 0 }, { name := "T_LONG", type := .int, accessFlags := 25, slot := 18, constantValue := 0 }, { name := "JLA", type := (.object "jdk/internal/access/JavaLangAccess"), accessFlags := 26, slot := 19, constantValue := 0 }, { name := "SOFT_MAX_ARRAY_LENGTH", type := .int, accessFlags := 25, slot := 20, constantValue := 0 }]
  methods := #[k12m0]
  instanceTypes := #[]
  staticTypes := #[(.object "jdk/internal/misc/Unsafe"), .boolean, .int, .int, .int, .int, .int, .int, .int, .int, .int, .int, .int, .int, .int, .int, .int, .int, .int, (.object "jdk/internal/access/JavaLangAccess"), .int]
  resolved := Array.replicate 378 none
  statics := none }

def pool13 : Array CpInfo := pool [(1, u "java/lang/Cloneable"), (0, .class_ 1), (0, u "java/lang/Object"), (0, .class_ 3)] 3

/-- java/lang/Cloneable -/
def k13 : Class := { plain "java/lang/Cloneable" (some 0) with
  accessFlags := 1537
  interfaces := #[]
  cf := some (fileOf pool13 2 #[] #[] 1537 4 #[] #[])
  fields := #[]
  methods := #[]
  instanceTypes := #[]
  staticTypes := #[]
  resolved := Array.replicate 8 none
  statics := none }

/-- the primitive byte -/
def k14 : Class := { plain "byte" none with kind := .primitive 'B', accessFlags := 0x411 }
/-- [B -/
def k15 : Class := { plain "[B" (some 0) with kind := .array 14 .byte, interfaces := #[13, 2], accessFlags := 1041 }

/-- the primitive int -/
def k16 : Class := { plain "int" none with kind := .primitive 'I', accessFlags := 0x411 }
/-- [I -/
def k17 : Class := { plain "[I" (some 0) with kind := .array 16 .int, interfaces := #[13, 2], accessFlags := 1041 }

def heap : Heap := #[{ cls := 7, slots := #[.long 0, .int 1, .null, .int 0, .null, .int 0, .int 0], vm := .statics 7 },
  { cls := 11, slots := #[.null, .null, .null], vm := .statics 11 }]
def classes : Array Class := #[k0, k1, k2, k3, k4, k5, k6, k7, k8, k9, k10, k11, k12, k13, k14, k15, k16, k17]
def interned : List (Array UInt16 × Addr) := []
def slotsUsed : Nat := 10
def theMethod : MethodId := ⟨1, 1⟩
def args0 : Array Value := #[.int 1, .int 5, .int 65, .int 0]
def aboutOver (below : List Frame) : State where
  vm := { classes := classes, interned := interned.toArray }
  heap := heap
  slotsUsed := slotsUsed
  threads := #[{ frames := .invoking theMethod args0 :: below }]
def below0 : List Frame := [.native { method := ⟨0, 0⟩, args := #[] }]
def about1 : State := aboutOver below0
def p0 : Program := .bare "" "" ""
def e0 : Env := launch0.env 0 0 0
theorem w_frames : about1.frames = Frame.invoking theMethod args0 :: below0 := rfl
set_option maxRecDepth 65536 in
theorem w_args : argsFit about1.vm theMethod args0 = true := by decide +kernel
set_option maxRecDepth 65536 in
theorem w_heap : heapFits about1 = true := by decide +kernel
set_option maxRecDepth 65536 in
theorem w_runnable : about1.curStatus? = some .runnable := by decide +kernel
set_option maxRecDepth 65536 in
theorem w_alone : about1.alone = true := by decide +kernel
set_option maxRecDepth 65536 in
theorem w_named : about1.methodNamed? x = some theMethod := by decide +kernel
set_option maxRecDepth 65536 in
theorem w_hears : about1.hears theMethod below0 = true := by decide +kernel
set_option maxRecDepth 65536 in
theorem w_ripe : about1.ripe theMethod args0 below0 = true := by decide +kernel
theorem w_running : about1.status = .running := rfl
set_option maxRecDepth 65536 in
theorem w_room : about1.hasRoom e0.platform room_1 = true :=
  launch0.hasRoom_least _ room_1 (by decide +kernel) (by decide +kernel) (by decide +kernel) (by decide +kernel) (by decide +kernel) (by decide +kernel)
theorem allAtoms_all (ts : List Jvm.Cond) (a : Array Jvm.Value) (st : Jvm.State) : (allAtoms ts).before a st = ts.all (fun c => c.before a st) := by
  induction ts with
  | nil => rfl
  | cons c t ih =>
    show (Jvm.Cond.and c (allAtoms t)).before a st = _
    rw [Jvm.Cond.before_and, ih, List.all_cons]
def words1 : List Jvm.Cond := Jvm.Cond.code x code maxLocals ret :: tables_1
/-- a 'code' word, met by the world's own term for the bytes: nothing is compared byte by byte -/
theorem code_word {y : MethodName} {bytes : ByteArray} {mx : Nat} {rt : Option FieldType} {a : Array Value} {s : State} {m : MethodId} {meth : Method} {c : Code} (h1 : s.methodNamed? y = some m) (h2 : s.vm.method? m = some meth) (h3 : meth.code = some c) (h4 : c.code = bytes)
    (h5 : (c.maxLocals == mx && c.exceptionTable.isEmpty && decide (c.maxStack ≤ mostOperands) && decide (meth.sig.returnType = rt) && !meth.locks && decide (parseMethodDescriptor y.desc = some meth.sig)) = true) : (Jvm.Cond.code y bytes mx rt).before a s = true := by
  simp only [Bool.and_eq_true, beq_iff_eq, Bool.not_eq_true', decide_eq_true_eq] at h5
  obtain ⟨⟨⟨⟨⟨g1, g2⟩, g3⟩, g4⟩, g5⟩, g6⟩ := h5
  simp [Cond.before, Cond.holds, Cond.value, h1, h2, h3, h4, g1, g2, g3, g4, g5, g6]
def isCode : Jvm.Cond → Bool
  | .code _ _ _ _ => true
  | _ => false
theorem all_split {L : List Jvm.Cond} {P : Jvm.Cond → Bool} (h1 : L.all (fun c => isCode c || P c) = true) (h2 : ∀ c ∈ L.filter isCode, P c = true) : L.all P = true := by
  refine List.all_eq_true.mpr fun c hc => ?_
  have h := List.all_eq_true.mp h1 c hc
  rcases Bool.eq_false_or_eq_true (isCode c) with hi | hi
  · exact h2 c (List.mem_filter.mpr ⟨hc, hi⟩)
  · simpa [hi] using h
set_option maxRecDepth 65536 in
theorem w_c0 : (Jvm.Cond.code x code maxLocals ret).before args0 about1 = true := code_word (m := ⟨1, 1⟩) (meth := k1m1) (c := k1c1) (by decide +kernel) rfl rfl rfl (by decide +kernel)
set_option maxRecDepth 65536 in
theorem w_c1 : (Jvm.Cond.code ({ cls := "java/lang/String", name := "valueOf", desc := "(C)Ljava/lang/String;" } : Jvm.MethodName) jdk_42_method_139_code (1 : Nat) (Option.some (Jvm.ClassFile.FieldType.object "java/lang/String"))).before args0 about1 = true := code_word (m := ⟨7, 1⟩) (meth := k7m1) (c := k7c1) (by decide +kernel) rfl rfl rfl (by decide +kernel)
set_option maxRecDepth 65536 in
theorem w_c2 : (Jvm.Cond.code ({ cls := "java/lang/StringLatin1", name := "canEncode", desc := "(C)Z" } : Jvm.MethodName) jdk_43_method_3_code (1 : Nat) (Option.some Jvm.ClassFile.FieldType.boolean)).before args0 about1 = true := code_word (m := ⟨8, 1⟩) (meth := k8m1) (c := k8c1) (by decide +kernel) rfl rfl rfl (by decide +kernel)
set_option maxRecDepth 65536 in
theorem w_c3 : (Jvm.Cond.code ({ cls := "java/lang/StringLatin1", name := "toBytes", desc := "(C)[B" } : Jvm.MethodName) jdk_43_method_46_code (1 : Nat) (Option.some (Jvm.ClassFile.FieldType.array Jvm.ClassFile.FieldType.byte))).before args0 about1 = true := code_word (m := ⟨8, 2⟩) (meth := k8m2) (c := k8c2) (by decide +kernel) rfl rfl rfl (by decide +kernel)
set_option maxRecDepth 65536 in
theorem w_c4 : (Jvm.Cond.code ({ cls := "java/lang/String", name := "<init>", desc := "([BB)V" } : Jvm.MethodName) jdk_42_method_151_code (3 : Nat) (Option.none : Option Jvm.ClassFile.FieldType)).before args0 about1 = true := code_word (m := ⟨7, 2⟩) (meth := k7m2) (c := k7c2) (by decide +kernel) rfl rfl rfl (by decide +kernel)
set_option maxRecDepth 65536 in
theorem w_c5 : (Jvm.Cond.code ({ cls := "java/lang/Object", name := "<init>", desc := "()V" } : Jvm.MethodName) object_method_1_code (1 : Nat) (Option.none : Option Jvm.ClassFile.FieldType)).before args0 about1 = true := code_word (m := ⟨0, 0⟩) (meth := k0m0) (c := k0c0) (by decide +kernel) rfl rfl rfl (by decide +kernel)
set_option maxRecDepth 65536 in
theorem w_c6 : (Jvm.Cond.code ({ cls := "com/example/formula_to_count/formulatocount/FirstOrderCnf$Variable", name := "<init>", desc := "(ILjava/lang/String;I)V" } : Jvm.MethodName) prog_33_method_1_code (4 : Nat) (Option.none : Option Jvm.ClassFile.FieldType)).before args0 about1 = true := code_word (m := ⟨10, 0⟩) (meth := k10m0) (c := k10c0) (by decide +kernel) rfl rfl rfl (by decide +kernel)
set_option maxRecDepth 65536 in
theorem w_c7 : (Jvm.Cond.code ({ cls := "java/lang/Record", name := "<init>", desc := "()V" } : Jvm.MethodName) jdk_30_method_1_code (1 : Nat) (Option.none : Option Jvm.ClassFile.FieldType)).before args0 about1 = true := code_word (m := ⟨9, 0⟩) (meth := k9m0) (c := k9c0) (by decide +kernel) rfl rfl rfl (by decide +kernel)
set_option maxRecDepth 65536 in
theorem w_c8 : (Jvm.Cond.code ({ cls := "com/example/formula_to_count/formulatocount/FirstOrderCnf$Variable", name := "isNamed", desc := "()Z" } : Jvm.MethodName) prog_33_method_4_code (1 : Nat) (Option.some Jvm.ClassFile.FieldType.boolean)).before args0 about1 = true := code_word (m := ⟨10, 3⟩) (meth := k10m3) (c := k10c3) (by decide +kernel) rfl rfl rfl (by decide +kernel)
set_option maxRecDepth 65536 in
theorem w_c9 : (Jvm.Cond.code ({ cls := "com/example/formula_to_count/formulatocount/FirstOrderCnf$Variable", name := "over", desc := "(ILjava/lang/String;)Lcom/example/formula_to_count/formulatocount/FirstOrderCnf$Variable;" } : Jvm.MethodName) prog_33_method_2_code (2 : Nat) (Option.some (Jvm.ClassFile.FieldType.object "com/example/formula_to_count/formulatocount/FirstOrderCnf$Variable"))).before args0 about1 = true := code_word (m := ⟨10, 1⟩) (meth := k10m1) (c := k10c1) (by decide +kernel) rfl rfl rfl (by decide +kernel)
set_option maxRecDepth 65536 in
theorem w_c10 : (Jvm.Cond.code ({ cls := "com/example/formula_to_count/formulatocount/FirstOrderCnf$Variable", name := "named", desc := "(Ljava/lang/String;I)Lcom/example/formula_to_count/formulatocount/FirstOrderCnf$Variable;" } : Jvm.MethodName) prog_33_method_3_code (2 : Nat) (Option.some (Jvm.ClassFile.FieldType.object "com/example/formula_to_count/formulatocount/FirstOrderCnf$Variable"))).before args0 about1 = true := code_word (m := ⟨10, 2⟩) (meth := k10m2) (c := k10c2) (by decide +kernel) rfl rfl rfl (by decide +kernel)
def codes1 : List Jvm.Cond := [Jvm.Cond.code x code maxLocals ret, Jvm.Cond.code ({ cls := "java/lang/String", name := "valueOf", desc := "(C)Ljava/lang/String;" } : Jvm.MethodName) jdk_42_method_139_code (1 : Nat) (Option.some (Jvm.ClassFile.FieldType.object "java/lang/String")), Jvm.Cond.code ({ cls := "java/lang/StringLatin1", name := "canEncode", desc := "(C)Z" } : Jvm.MethodName) jdk_43_method_3_code (1 : Nat) (Option.some Jvm.ClassFile.FieldType.boolean), Jvm.Cond.code ({ cls := "java/lang/StringLatin1", name := "toBytes", desc := "(C)[B" } : Jvm.MethodName) jdk_43_method_46_code (1 : Nat) (Option.some (Jvm.ClassFile.FieldType.array Jvm.ClassFile.FieldType.byte)), Jvm.Cond.code ({ cls := "java/lang/String", name := "<init>", desc := "([BB)V" } : Jvm.MethodName) jdk_42_method_151_code (3 : Nat) (Option.none : Option Jvm.ClassFile.FieldType), Jvm.Cond.code ({ cls := "java/lang/Object", name := "<init>", desc := "()V" } : Jvm.MethodName) object_method_1_code (1 : Nat) (Option.none : Option Jvm.ClassFile.FieldType), Jvm.Cond.code ({ cls := "com/example/formula_to_count/formulatocount/FirstOrderCnf$Variable", name := "<init>", desc := "(ILjava/lang/String;I)V" } : Jvm.MethodName) prog_33_method_1_code (4 : Nat) (Option.none : Option Jvm.ClassFile.FieldType), Jvm.Cond.code ({ cls := "java/lang/Record", name := "<init>", desc := "()V" } : Jvm.MethodName) jdk_30_method_1_code (1 : Nat) (Option.none : Option Jvm.ClassFile.FieldType), Jvm.Cond.code ({ cls := "com/example/formula_to_count/formulatocount/FirstOrderCnf$Variable", name := "isNamed", desc := "()Z" } : Jvm.MethodName) prog_33_method_4_code (1 : Nat) (Option.some Jvm.ClassFile.FieldType.boolean), Jvm.Cond.code ({ cls := "com/example/formula_to_count/formulatocount/FirstOrderCnf$Variable", name := "over", desc := "(ILjava/lang/String;)Lcom/example/formula_to_count/formulatocount/FirstOrderCnf$Variable;" } : Jvm.MethodName) prog_33_method_2_code (2 : Nat) (Option.some (Jvm.ClassFile.FieldType.object "com/example/formula_to_count/formulatocount/FirstOrderCnf$Variable")), Jvm.Cond.code ({ cls := "com/example/formula_to_count/formulatocount/FirstOrderCnf$Variable", name := "named", desc := "(Ljava/lang/String;I)Lcom/example/formula_to_count/formulatocount/FirstOrderCnf$Variable;" } : Jvm.MethodName) prog_33_method_3_code (2 : Nat) (Option.some (Jvm.ClassFile.FieldType.object "com/example/formula_to_count/formulatocount/FirstOrderCnf$Variable"))]
set_option maxRecDepth 65536 in
theorem codes_eq : words1.filter isCode = codes1 := rfl
theorem w_codes : ∀ c ∈ words1.filter isCode, c.before args0 about1 = true := by
  rw [codes_eq]
  intro c hc
  simp only [codes1, List.mem_cons, List.not_mem_nil, or_false] at hc
  rcases hc with rfl | rfl | rfl | rfl | rfl | rfl | rfl | rfl | rfl | rfl | rfl
  · exact w_c0
  · exact w_c1
  · exact w_c2
  · exact w_c3
  · exact w_c4
  · exact w_c5
  · exact w_c6
  · exact w_c7
  · exact w_c8
  · exact w_c9
  · exact w_c10
set_option maxRecDepth 65536 in
theorem w_t1 : (words1.take 24).all (fun c => isCode c || c.before args0 about1) = true := by decide +kernel
set_option maxRecDepth 65536 in
theorem w_t2 : ((words1.drop 24).take 24).all (fun c => isCode c || c.before args0 about1) = true := by decide +kernel
set_option maxRecDepth 65536 in
theorem w_t3 : ((words1.drop 24).drop 24).all (fun c => isCode c || c.before args0 about1) = true := by decide +kernel
theorem w_tables : (allAtoms (Jvm.Cond.code x code maxLocals ret :: tables_1)).before args0 about1 = true := by
  rw [allAtoms_all]
  show words1.all (fun c => c.before args0 about1) = true
  refine all_split ?_ w_codes
  rw [← List.take_append_drop 24 words1, List.all_append, w_t1, ← List.take_append_drop 24 (words1.drop 24), List.all_append, w_t2, w_t3]
  rfl
set_option maxRecDepth 65536 in
theorem w_rest : rest_1_c.before args0 about1 = true := by decide +kernel
set_option maxRecDepth 65536 in
theorem w_case : (Jvm.Cond.and given_1 narrow_1).before args0 about1 = true := by decide +kernel
theorem w_applies : (headSpec (Jvm.Cond.code x code maxLocals ret :: tables_1) room_1).applies x e0.platform about1 = true :=
  (Spec.applies_iff w_frames).mpr ⟨w_running, w_runnable, w_alone, w_named, w_hears, w_ripe, w_room, w_tables⟩
theorem atStart : AtStart classFile x code maxLocals ret World_1 tables_1 room_1 Calls_1 rest_1 Pre_1 launch0 p0 e0 about1 theMethod args0 below0 :=
  ⟨lists_1, trivial, launch0.admits_env _ _ _, launch0.least_env, fairChoices_fair.cas, fairChoices_fair.clock, w_frames, w_args, w_heap, w_applies, trivial, w_rest, w_case⟩
end start1
theorem witness_1 : WitnessClaimed_1 := ⟨start1.p0, start1.e0, start1.about1, start1.theMethod, start1.args0, start1.below0, start1.atStart⟩
end Jvm.Pilot.@@N@@
