import JvmDerived
import JvmDerived.Pilot.@@N@@Statement
import JvmDerived.Pilot.@@N@@Code
set_option linter.unusedVariables false
set_option linter.unusedSimpArgs false
namespace Jvm.RoadKit
open Sem ClassFile Op Lib Jvm.Stand Jvm.Free Jvm.LawKit
section New
variable {p : Program} {l : Launch} {e : Env} {R : Room} {s : State} {m : MethodId} {args : Array Value} {below : List Frame} {meth : Method} {c : Code} {T : State} {locs : List Loc} {cells slots : Nat}
theorem retI (X : Stand p l e R s m args below meth c T locs cells slots) (hx : p.tables.exec = Jvm.exec) {pc : Nat} {Ls : Array Slot} {z : Int32} {rest : List Value} (hret : meth.sig.returnType = some .int) (hd : decode c.code pc = .ok (.ireturn, 1)) {fs : List Frame}
    (hl : ∀ (f : JFrame) (acts : List Action), f.method = m → f.locked = none → f.entered = [] → (doReturn e (T.setTop f) acts (some (.int z))).1 = T.setFrames fs) : Steps p.tables e below (T.setTop (mkF m pc Ls (.int z :: rest))) (T.setFrames fs) := by
  have hm' : T.vm.method? m = some meth := X.method'
  have hn : narrow .int (.int z) = .int z := rfl
  show Steps p.tables e below (T.setTop { method := m, pc := pc, locals := Ls, stack := _ :: rest, locked := none }) _
  jvm_step X.here [X.here.top, hx, hd, hm', hret, hn]
  first | (intro acts; rw [hl _ acts rfl rfl rfl]) | rw [hl _ _ rfl rfl rfl]
  exact Steps.refl _
theorem lremM {g : JFrame} {target : State} (X : Stand p l e R s m args below meth c T locs cells slots) (hx : p.tables.exec = Jvm.exec) (hg : g.method = m) {x y : Int64} {rest : List Value} (hd : decode c.code g.pc = .ok (.lrem, 1)) (hs : g.stack = .long y :: .long x :: rest) (hy : y ≠ 0)
    (hr : Steps p.tables e below (T.setTop { g with pc := g.pc + 1, stack := .long (x % y) :: rest }) target) : Steps p.tables e below (T.setTop g) target := by
  have q : x - x / y * y = x % y := lrem_mod x y
  exact XS.lrem X.here hx hg hd hs hy (by rw [q]; exact hr)
/-- from the state t the invocation ends as Q says -/
def Done (p : Program) (e : Env) (below : List Frame) (Q : Outcome → State → Prop) (t : State) : Prop := ∃ s₂ o, Steps p.tables e below t s₂ ∧ s₂.status = .running ∧ Ended s₂ below o ∧ Q o s₂
theorem Done.of {p : Program} {e : Env} {below : List Frame} {Q : Outcome → State → Prop} {t t' : State} (h : Done p e below Q t') (k : ∀ target, Steps p.tables e below t' target → Steps p.tables e below t target) : Done p e below Q t := by
  obtain ⟨s₂, o, h1, h2⟩ := h
  exact ⟨s₂, o, k _ h1, h2⟩
end New
end Jvm.RoadKit
namespace Jvm.Pilot.@@N@@
open Jvm Jvm.ClassFile Sem Op Lib Jvm.Free Jvm.Stand Jvm.LawKit Jvm.RoadKit Bundle Jvm.Pilot.@@N@@.Jvm.D

theorem own_root {Z : State} {a0 : Array Value} {O K : String} {n : Nat} (w : (Jvm.Cond.noSuperclass O).before a0 Z = true) (wk : (Jvm.Cond.instantiable K n).before a0 Z = true) (hn : O ≠ K) : NS Z O K := by
  obtain ⟨c, k, h1, h2, h3, -, -⟩ := Cond.noSuperclass_spec w
  obtain ⟨t, kt, g1, -⟩ := Cond.instantiable_spec wk
  have ne := ids_ne h1 g1 hn
  refine ⟨c, t, h1, g1, fun fuel => ?_⟩
  cases fuel with
  | zero => rfl
  | succ f => simp [Vm.isSubclassAux, ne, h2, h3]
theorem own_no {Z : State} {a0 : Array Value} {C S K : String} {n : Nat} (w : (Jvm.Cond.superclass C S).before a0 Z = true) (wk : (Jvm.Cond.instantiable K n).before a0 Z = true) (h : NS Z C K) (hn : C ≠ K) : ∃ c t, Z.vm.findClass C = some c ∧ Z.vm.findClass K = some t ∧ Z.vm.assignable c t = false := by
  obtain ⟨c, t, h0, g0, n3⟩ := h
  obtain ⟨p, k, kp, h1, h2, h3, h4, h5, -, h7⟩ := Cond.superclass_spec h0 w
  obtain ⟨t', k', g1, g2, g5, g7, -⟩ := Cond.instantiable_spec wk
  cases g0.symm.trans g1
  have ne := ids_ne h0 g0 hn
  have g8 : k'.isInterface = false := by simp only [Bool.or_eq_false_iff] at g7; exact g7.1
  refine ⟨c, t, h0, g0, ?_⟩
  show Z.vm.assignableAux (255 + 1) c t = false
  simp [Vm.assignableAux, ne, h2, g2, h5, g5, g8, Vm.isSubclass, n3]

theorem own_in {Z : State} {a : Addr} {c : Cell} {K d : String} {val : Int32 → Value} {x : Int64} (B : Bxs Z a c K d (256 : Int32) val) (h1 : ¬ x < (-128 : Int64)) (h2 : ¬ (127 : Int64) < x) : ¬ (((x.toInt32) + (128 : Int32)) < 0 ∨ c.slots.size ≤ ((x.toInt32) + (128 : Int32)).toNatClampNeg) := by
  have e1 := c_l2i x
  have e2 := c_iadd x.toInt32 (128 : Int32)
  have r1 := rng32 x.toInt32
  have r2 := rng32 (x.toInt32 + (128 : Int32))
  have s := B.2.1
  rw [show (256 : Int32).toNatClampNeg = 256 from by decide] at s
  rw [Int64.lt_iff_toInt_lt] at h1 h2
  rw [show (-128 : Int64).toInt = -128 from by decide] at h1
  rw [show (127 : Int64).toInt = 127 from by decide] at h2
  rw [show (128 : Int32).toInt = 128 from by decide] at e2
  rw [Int32.lt_iff_toInt_lt, show (0 : Int32).toInt = 0 from by decide, s]
  show ¬ ((x.toInt32 + (128 : Int32)).toInt < 0 ∨ 256 ≤ (x.toInt32 + (128 : Int32)).toInt.toNat)
  omega
theorem own_sym (a b : Int64) : (if a = b then (1 : Int32) else (0 : Int32)) = (if b = a then (1 : Int32) else (0 : Int32)) := by
  by_cases h : a = b
  · rw [if_pos h, if_pos h.symm]
  · rw [if_neg h, if_neg fun q => h q.symm]
theorem d2_0 : decode jdk_30_method_1_code 0 = .ok (.aload_n 0, 1) := by decide +kernel
theorem d2_1 : decode jdk_30_method_1_code 1 = .ok (.invokespecial 1, 3) := by decide +kernel
theorem d2_4 : decode jdk_30_method_1_code 4 = .ok (.return_, 1) := by decide +kernel
theorem pn_2 : plainName "java/lang/Record" = true := by first | (simp [plainName, overriddenIn]; done) | decide +kernel
theorem ef_2 (m : MethodId) (u0 : Addr)  : entryFrame m #[(.ref u0)] 1 = mkF m 0 #[.val (.ref u0)] [] := by first | (simp [entryFrame, mkF, argsToLocals, Value.category]; done) | rfl
def Q2 (Z : State) (u0 : Addr) (h0 : Heap) (n0 : Nat) (v : Option Value) (h : Heap) (L : List Loc) : Prop := v = none ∧ Fr n0 L ∧ h = h0
set_option maxRecDepth 65536 in
set_option maxHeartbeats 40000000 in
theorem rm2 (l : Launch) (Z : State) (a0 : Array Value) (hw : ∀ d ∈ tables_1, d.before a0 Z = true) (ws : List Jvm.Cond) (u0 : Addr) (h0 : Heap) (n0 : Nat) (Z0 : n0 ≤ h0.size) :
    MetFree l (⟨"java/lang/Record", "<init>", "()V"⟩ : MethodName) (head1 (Jvm.Cond.code (⟨"java/lang/Record", "<init>", "()V"⟩ : MethodName) jdk_30_method_1_code 1 none :: ws) ({ frames := 1, cells := 0, slots := 0, locals := 12 } : Room)) (fun a U => a = #[(.ref u0)] ∧ Z.Warmed39 U.vm ∧ U.heap = h0) (fun _ _ _ _ _ => True) (fun _ U o U' => ∃ v L, o = .returned v ∧ Q2 Z u0 h0 n0 v U'.heap L ∧ FrameEnd U o U' L ({ frames := 1, cells := 0, slots := 0, locals := 12 } : Room).cells ({ frames := 1, cells := 0, slots := 0, locals := 12 } : Room).slots) := by
  refine MetFree.of_bodySF (plainFor_of_name pn_2) hisR ?_
  intro p e s m args below meth c s₁ Bd hml0 hP hK
  obtain ⟨rfl, hZ, hh⟩ := hP
  have hx := Bd.exec
  have hby := Bd.bytes
  have hml : c.maxLocals = 1 := hml0
  have hown : s.vm.findClass "java/lang/Record" = some m.cls := findClass_of_methodNamed Bd.named
  have hnm := (name_of_methodNamed Bd.named Bd.method).1
  have X0 : Stand p l e ({ frames := 1, cells := 0, slots := 0, locals := 12 } : Room) s m #[(.ref u0)] below meth c s₁ [] 0 0 := Stand.of_body Bd
  have e0 : s₁.heap = h0 := by rw [← hh, Bd.state]; rfl
  have N0 := Fr.nil n0
  have pre0 : ∀ t, Steps p.tables e below (s₁.setTop (mkF m 0 #[.val (.ref u0)] [])) t → Steps p.tables e below (s₁.setTop (entryFrame m #[(.ref u0)] 1)) t := fun t k => castTop (ef_2 m u0) k
  show Done p e below _ _
  refine Done.of ?_ pre0
  obtain ⟨T1, X1, e1, st1⟩ := initO X0 hx hZ hown (hw _ (List.mem_of_getElem? (i := 11) rfl)) (hw _ (List.mem_of_getElem? (i := 12) rfl)) (hw _ (List.mem_of_getElem? (i := 13) rfl)) e0 (g := (mkF m 1 #[.val (.ref u0)] [(.ref u0)])) rfl (by rw [hml]; rfl) rfl (hb hby d2_1) (by decide) (W := 0) (by show 2 * 0 + _ ≤ _; exact Nat.le_of_eq rfl) (by decide)
  obtain ⟨fs, hr, hrun, hended, hW, hsame⟩ := X1.leave (v := none) (fun _ => rfl)
  refine ⟨_, _, ?_, hrun, hended, _, _, rfl, ?_, ⟨_, rfl⟩, hW, hsame.mono (by decide) (by decide)⟩
  · show Steps p.tables e below (s₁.setTop (mkF m 0 #[.val (.ref u0)] [])) _
    refine XS.aloadN X0.here hx rfl (hb hby d2_0) rfl rfl ?_
    show Steps p.tables e below (s₁.setTop (mkF m 1 #[.val (.ref u0)] [(.ref u0)])) _
    refine st1 _ ?_
    show Steps p.tables e below (T1.setTop (mkF m 4 #[.val (.ref u0)] [])) _
    exact X1.returnOut hx Bd.returns (hb hby d2_4) hr
  · show Q2 Z u0  h0 n0 _ T1.heap _
    rw [e1]
    refine ⟨?_, N0, rfl⟩
    rfl
theorem d7_0 : decode jdk_18_method_1_code 0 = .ok (.aload_n 0, 1) := by decide +kernel
theorem d7_1 : decode jdk_18_method_1_code 1 = .ok (.invokespecial 1, 3) := by decide +kernel
theorem d7_4 : decode jdk_18_method_1_code 4 = .ok (.return_, 1) := by decide +kernel
theorem pn_7 : plainName "java/lang/Number" = true := by first | (simp [plainName, overriddenIn]; done) | decide +kernel
theorem ef_7 (m : MethodId) (u0 : Addr)  : entryFrame m #[(.ref u0)] 1 = mkF m 0 #[.val (.ref u0)] [] := by first | (simp [entryFrame, mkF, argsToLocals, Value.category]; done) | rfl
def Q7 (Z : State) (u0 : Addr) (h0 : Heap) (n0 : Nat) (v : Option Value) (h : Heap) (L : List Loc) : Prop := v = none ∧ Fr n0 L ∧ h = h0
set_option maxRecDepth 65536 in
set_option maxHeartbeats 40000000 in
theorem rm7 (l : Launch) (Z : State) (a0 : Array Value) (hw : ∀ d ∈ tables_1, d.before a0 Z = true) (ws : List Jvm.Cond) (u0 : Addr) (h0 : Heap) (n0 : Nat) (Z0 : n0 ≤ h0.size) :
    MetFree l (⟨"java/lang/Number", "<init>", "()V"⟩ : MethodName) (head1 (Jvm.Cond.code (⟨"java/lang/Number", "<init>", "()V"⟩ : MethodName) jdk_18_method_1_code 1 none :: ws) ({ frames := 1, cells := 0, slots := 0, locals := 12 } : Room)) (fun a U => a = #[(.ref u0)] ∧ Z.Warmed39 U.vm ∧ U.heap = h0) (fun _ _ _ _ _ => True) (fun _ U o U' => ∃ v L, o = .returned v ∧ Q7 Z u0 h0 n0 v U'.heap L ∧ FrameEnd U o U' L ({ frames := 1, cells := 0, slots := 0, locals := 12 } : Room).cells ({ frames := 1, cells := 0, slots := 0, locals := 12 } : Room).slots) := by
  refine MetFree.of_bodySF (plainFor_of_name pn_7) hisR ?_
  intro p e s m args below meth c s₁ Bd hml0 hP hK
  obtain ⟨rfl, hZ, hh⟩ := hP
  have hx := Bd.exec
  have hby := Bd.bytes
  have hml : c.maxLocals = 1 := hml0
  have hown : s.vm.findClass "java/lang/Number" = some m.cls := findClass_of_methodNamed Bd.named
  have hnm := (name_of_methodNamed Bd.named Bd.method).1
  have X0 : Stand p l e ({ frames := 1, cells := 0, slots := 0, locals := 12 } : Room) s m #[(.ref u0)] below meth c s₁ [] 0 0 := Stand.of_body Bd
  have e0 : s₁.heap = h0 := by rw [← hh, Bd.state]; rfl
  have N0 := Fr.nil n0
  have pre0 : ∀ t, Steps p.tables e below (s₁.setTop (mkF m 0 #[.val (.ref u0)] [])) t → Steps p.tables e below (s₁.setTop (entryFrame m #[(.ref u0)] 1)) t := fun t k => castTop (ef_7 m u0) k
  show Done p e below _ _
  refine Done.of ?_ pre0
  obtain ⟨T1, X1, e1, st1⟩ := initO X0 hx hZ hown (hw _ (List.mem_of_getElem? (i := 40) rfl)) (hw _ (List.mem_of_getElem? (i := 12) rfl)) (hw _ (List.mem_of_getElem? (i := 13) rfl)) e0 (g := (mkF m 1 #[.val (.ref u0)] [(.ref u0)])) rfl (by rw [hml]; rfl) rfl (hb hby d7_1) (by decide) (W := 0) (by show 2 * 0 + _ ≤ _; exact Nat.le_of_eq rfl) (by decide)
  obtain ⟨fs, hr, hrun, hended, hW, hsame⟩ := X1.leave (v := none) (fun _ => rfl)
  refine ⟨_, _, ?_, hrun, hended, _, _, rfl, ?_, ⟨_, rfl⟩, hW, hsame.mono (by decide) (by decide)⟩
  · show Steps p.tables e below (s₁.setTop (mkF m 0 #[.val (.ref u0)] [])) _
    refine XS.aloadN X0.here hx rfl (hb hby d7_0) rfl rfl ?_
    show Steps p.tables e below (s₁.setTop (mkF m 1 #[.val (.ref u0)] [(.ref u0)])) _
    refine st1 _ ?_
    show Steps p.tables e below (T1.setTop (mkF m 4 #[.val (.ref u0)] [])) _
    exact X1.returnOut hx Bd.returns (hb hby d7_4) hr
  · show Q7 Z u0  h0 n0 _ T1.heap _
    rw [e1]
    refine ⟨?_, N0, rfl⟩
    rfl
theorem d1_0 : decode prog_52_method_1_code 0 = .ok (.aload_n 0, 1) := by decide +kernel
theorem d1_1 : decode prog_52_method_1_code 1 = .ok (.invokespecial 1, 3) := by decide +kernel
theorem d1_4 : decode prog_52_method_1_code 4 = .ok (.aload_n 0, 1) := by decide +kernel
theorem d1_5 : decode prog_52_method_1_code 5 = .ok (.lload_n 1, 1) := by decide +kernel
theorem d1_6 : decode prog_52_method_1_code 6 = .ok (.putfield 7, 3) := by decide +kernel
theorem d1_9 : decode prog_52_method_1_code 9 = .ok (.return_, 1) := by decide +kernel
theorem pn_1 : plainName "com/example/firepick/firepick/IntegerItem" = true := by first | (simp [plainName, overriddenIn]; done) | decide +kernel
theorem pd_0 : parseMethodDescriptor "()V" = some ⟨[], none⟩ := by decide +kernel
theorem ef_1 (m : MethodId) (u0 : Addr) (q1 : Int64)  : entryFrame m #[(.ref u0), (.long q1)] 3 = mkF m 0 #[.val (.ref u0), .val (.long q1), .second] [] := by first | (simp [entryFrame, mkF, argsToLocals, Value.category]; done) | rfl
def Q1 (Z : State) (u0 : Addr) (q1 : Int64) (h0 : Heap) (n0 : Nat) (v : Option Value) (h : Heap) (L : List Loc) : Prop := v = none ∧ Fr n0 L ∧ Keep h0 h [u0] ∧ Exa Z h u0 "com/example/firepick/firepick/IntegerItem" ∧ Fld Z h u0 "com/example/firepick/firepick/IntegerItem" "value" "J" (.long q1)
set_option maxRecDepth 65536 in
set_option maxHeartbeats 40000000 in
theorem rm1 (l : Launch) (Z : State) (a0 : Array Value) (hw : ∀ d ∈ tables_1, d.before a0 Z = true) (ws : List Jvm.Cond) (u0 : Addr) (q1 : Int64) (h0 : Heap) (n0 : Nat) (Z0 : n0 ≤ h0.size) (E0 : Exa Z h0 u0 "com/example/firepick/firepick/IntegerItem") (g0 : n0 ≤ u0) (F0 : Fld Z h0 u0 "com/example/firepick/firepick/IntegerItem" "value" "J" (.long (0 : Int64))) :
    MetFree l (⟨"com/example/firepick/firepick/IntegerItem", "<init>", "(J)V"⟩ : MethodName) (head1 (Jvm.Cond.code (⟨"com/example/firepick/firepick/IntegerItem", "<init>", "(J)V"⟩ : MethodName) prog_52_method_1_code 3 none :: ws) ({ frames := 2, cells := 0, slots := 0, locals := 24 } : Room)) (fun a U => a = #[(.ref u0), (.long q1)] ∧ Z.Warmed39 U.vm ∧ U.heap = h0) (fun _ _ _ _ _ => True) (fun _ U o U' => ∃ v L, o = .returned v ∧ Q1 Z u0 q1 h0 n0 v U'.heap L ∧ FrameEnd U o U' L ({ frames := 2, cells := 0, slots := 0, locals := 24 } : Room).cells ({ frames := 2, cells := 0, slots := 0, locals := 24 } : Room).slots) := by
  refine MetFree.of_bodySF (plainFor_of_name pn_1) hisR ?_
  intro p e s m args below meth c s₁ Bd hml0 hP hK
  obtain ⟨rfl, hZ, hh⟩ := hP
  have hx := Bd.exec
  have hby := Bd.bytes
  have hml : c.maxLocals = 3 := hml0
  have hown : s.vm.findClass "com/example/firepick/firepick/IntegerItem" = some m.cls := findClass_of_methodNamed Bd.named
  have hnm := (name_of_methodNamed Bd.named Bd.method).1
  have X0 : Stand p l e ({ frames := 2, cells := 0, slots := 0, locals := 24 } : Room) s m #[(.ref u0), (.long q1)] below meth c s₁ [] 0 0 := Stand.of_body Bd
  have e0 : s₁.heap = h0 := by rw [← hh, Bd.state]; rfl
  have N0 := Fr.nil n0
  have pre0 : ∀ t, Steps p.tables e below (s₁.setTop (mkF m 0 #[.val (.ref u0), .val (.long q1), .second] [])) t → Steps p.tables e below (s₁.setTop (entryFrame m #[(.ref u0), (.long q1)] 3)) t := fun t k => castTop (ef_1 m u0 q1) k
  show Done p e below _ _
  refine Done.of ?_ pre0
  obtain ⟨_, _, ⟨T1, L1, k1, n1⟩, -, X1, ⟨Lc1, hQ1, l1, y1, z1⟩, st1⟩ := X0.specialBack hx (y := (⟨"java/lang/Record", "<init>", "()V"⟩ : MethodName)) rfl hown (mvT hZ (hw _ (List.mem_of_getElem? (i := 6) rfl))) (mvT hZ (hw _ (List.mem_of_getElem? (i := 7) rfl))) (mvT hZ (hw _ (List.mem_of_getElem? (i := 10) rfl))) (by decide) (backOf (W := 0) (rm2 l Z a0 hw [] u0 h0 n0 Z0 ) hZ (hw _ (List.mem_of_getElem? (i := 10) rfl)) (hw _ (List.mem_of_getElem? (i := 9) rfl)) (by decide) (by decide)) (g := (mkF m 1 #[.val (.ref u0), .val (.long q1), .second] [(.ref u0)])) rfl (by rw [hml]; rfl) (Steps.refl _) (a := u0) (argsL := []) (rest := []) (lenOf pd_0 rfl) rfl (by show 2 * 0 + _ ≤ _; exact Nat.le_of_eq rfl) (hb hby d1_1) (fun _ _ => ⟨rfl, e0, (by decide : 0 + 0 ≤ _), (by decide : 0 + 0 ≤ _)⟩)
  dsimp only [Pt.U, Pt.locs, Pt.cells, Pt.slots] at X1 l1 y1 z1 st1 hQ1
  subst l1 y1 z1
  obtain ⟨rfl, N1q, e1⟩ := hQ1
  have N1 := Fr.app N0 N1q
  obtain ⟨T2, h2, X2, e2, W2, st2⟩ := putF X1 hx hZ hown (host := "") (Or.inl (hw _ (List.mem_of_getElem? (i := 14) rfl))) Via.refl e1 F0 E0 (Or.inr ⟨(hw _ (List.mem_of_getElem? (i := 15) rfl)), rfl, hnm⟩) (hw _ (List.mem_of_getElem? (i := 1) rfl)) (ty := .long) (by decide) rfl rfl (g := (mkF m 6 #[.val (.ref u0), .val (.long q1), .second] [(.long q1), (.ref u0)])) rfl rfl (hb hby d1_6)
  have Fw2 := Fld.same W2 F0
  have N2 := Fr.snoc X2 N1 g0
  have Z2 : n0 ≤ h2.size := Nat.le_trans Z0 (Nat.le_of_eq W2.size.symm)
  have Kp2 := (Keep.refl h0 [u0]).wr W2 (Or.inl (List.mem_of_getElem? (i := 0) rfl))
  obtain ⟨fs, hr, hrun, hended, hW, hsame⟩ := X2.leave (v := none) (fun _ => rfl)
  refine ⟨_, _, ?_, hrun, hended, _, _, rfl, ?_, ⟨_, rfl⟩, hW, hsame.mono (by decide) (by decide)⟩
  · show Steps p.tables e below (s₁.setTop (mkF m 0 #[.val (.ref u0), .val (.long q1), .second] [])) _
    refine XS.aloadN X0.here hx rfl (hb hby d1_0) rfl rfl ?_
    show Steps p.tables e below (s₁.setTop (mkF m 1 #[.val (.ref u0), .val (.long q1), .second] [(.ref u0)])) _
    refine st1.trans ?_
    show Steps p.tables e below (T1.setTop (mkF m 4 #[.val (.ref u0), .val (.long q1), .second] [])) _
    refine XS.aloadN X1.here hx rfl (hb hby d1_4) rfl rfl ?_
    show Steps p.tables e below (T1.setTop (mkF m 5 #[.val (.ref u0), .val (.long q1), .second] [(.ref u0)])) _
    refine XS.lloadN X1.here hx rfl (hb hby d1_5) rfl ?_
    show Steps p.tables e below (T1.setTop (mkF m 6 #[.val (.ref u0), .val (.long q1), .second] [(.long q1), (.ref u0)])) _
    refine st2 _ ?_
    show Steps p.tables e below (T2.setTop (mkF m 9 #[.val (.ref u0), .val (.long q1), .second] [])) _
    exact X2.returnOut hx Bd.returns (hb hby d1_9) hr
  · show Q1 Z u0 q1  h0 n0 _ T2.heap _
    rw [e2]
    exact ⟨rfl, N2, Kp2, (E0.wr W2), Fw2⟩
theorem d8_0 : decode prog_24_method_1_code 0 = .ok (.aload_n 0, 1) := by decide +kernel
theorem d8_1 : decode prog_24_method_1_code 1 = .ok (.invokespecial 1, 3) := by decide +kernel
theorem d8_4 : decode prog_24_method_1_code 4 = .ok (.aload_n 0, 1) := by decide +kernel
theorem d8_5 : decode prog_24_method_1_code 5 = .ok (.dload_n 1, 1) := by decide +kernel
theorem d8_6 : decode prog_24_method_1_code 6 = .ok (.putfield 7, 3) := by decide +kernel
theorem d8_9 : decode prog_24_method_1_code 9 = .ok (.return_, 1) := by decide +kernel
theorem pn_8 : plainName "com/example/firepick/firepick/DecimalItem" = true := by first | (simp [plainName, overriddenIn]; done) | decide +kernel
theorem ef_8 (m : MethodId) (u0 : Addr) (r1 : UInt64)  : entryFrame m #[(.ref u0), (.double r1)] 3 = mkF m 0 #[.val (.ref u0), .val (.double r1), .second] [] := by first | (simp [entryFrame, mkF, argsToLocals, Value.category]; done) | rfl
def Q8 (Z : State) (u0 : Addr) (r1 : UInt64) (h0 : Heap) (n0 : Nat) (v : Option Value) (h : Heap) (L : List Loc) : Prop := v = none ∧ Fr n0 L ∧ Keep h0 h [u0] ∧ Exa Z h u0 "com/example/firepick/firepick/DecimalItem" ∧ Fld Z h u0 "com/example/firepick/firepick/DecimalItem" "value" "D" (.double r1)
set_option maxRecDepth 65536 in
set_option maxHeartbeats 40000000 in
theorem rm8 (l : Launch) (Z : State) (a0 : Array Value) (hw : ∀ d ∈ tables_1, d.before a0 Z = true) (ws : List Jvm.Cond) (u0 : Addr) (r1 : UInt64) (h0 : Heap) (n0 : Nat) (Z0 : n0 ≤ h0.size) (E0 : Exa Z h0 u0 "com/example/firepick/firepick/DecimalItem") (g0 : n0 ≤ u0) (F0 : Fld Z h0 u0 "com/example/firepick/firepick/DecimalItem" "value" "D" (.double (0 : UInt64))) :
    MetFree l (⟨"com/example/firepick/firepick/DecimalItem", "<init>", "(D)V"⟩ : MethodName) (head1 (Jvm.Cond.code (⟨"com/example/firepick/firepick/DecimalItem", "<init>", "(D)V"⟩ : MethodName) prog_24_method_1_code 3 none :: ws) ({ frames := 2, cells := 0, slots := 0, locals := 24 } : Room)) (fun a U => a = #[(.ref u0), (.double r1)] ∧ Z.Warmed39 U.vm ∧ U.heap = h0) (fun _ _ _ _ _ => True) (fun _ U o U' => ∃ v L, o = .returned v ∧ Q8 Z u0 r1 h0 n0 v U'.heap L ∧ FrameEnd U o U' L ({ frames := 2, cells := 0, slots := 0, locals := 24 } : Room).cells ({ frames := 2, cells := 0, slots := 0, locals := 24 } : Room).slots) := by
  refine MetFree.of_bodySF (plainFor_of_name pn_8) hisR ?_
  intro p e s m args below meth c s₁ Bd hml0 hP hK
  obtain ⟨rfl, hZ, hh⟩ := hP
  have hx := Bd.exec
  have hby := Bd.bytes
  have hml : c.maxLocals = 3 := hml0
  have hown : s.vm.findClass "com/example/firepick/firepick/DecimalItem" = some m.cls := findClass_of_methodNamed Bd.named
  have hnm := (name_of_methodNamed Bd.named Bd.method).1
  have X0 : Stand p l e ({ frames := 2, cells := 0, slots := 0, locals := 24 } : Room) s m #[(.ref u0), (.double r1)] below meth c s₁ [] 0 0 := Stand.of_body Bd
  have e0 : s₁.heap = h0 := by rw [← hh, Bd.state]; rfl
  have N0 := Fr.nil n0
  have pre0 : ∀ t, Steps p.tables e below (s₁.setTop (mkF m 0 #[.val (.ref u0), .val (.double r1), .second] [])) t → Steps p.tables e below (s₁.setTop (entryFrame m #[(.ref u0), (.double r1)] 3)) t := fun t k => castTop (ef_8 m u0 r1) k
  show Done p e below _ _
  refine Done.of ?_ pre0
  obtain ⟨_, _, ⟨T1, L1, k1, n1⟩, -, X1, ⟨Lc1, hQ1, l1, y1, z1⟩, st1⟩ := X0.specialBack hx (y := (⟨"java/lang/Record", "<init>", "()V"⟩ : MethodName)) rfl hown (mvT hZ (hw _ (List.mem_of_getElem? (i := 53) rfl))) (mvT hZ (hw _ (List.mem_of_getElem? (i := 7) rfl))) (mvT hZ (hw _ (List.mem_of_getElem? (i := 10) rfl))) (by decide) (backOf (W := 0) (rm2 l Z a0 hw [] u0 h0 n0 Z0 ) hZ (hw _ (List.mem_of_getElem? (i := 10) rfl)) (hw _ (List.mem_of_getElem? (i := 9) rfl)) (by decide) (by decide)) (g := (mkF m 1 #[.val (.ref u0), .val (.double r1), .second] [(.ref u0)])) rfl (by rw [hml]; rfl) (Steps.refl _) (a := u0) (argsL := []) (rest := []) (lenOf pd_0 rfl) rfl (by show 2 * 0 + _ ≤ _; exact Nat.le_of_eq rfl) (hb hby d8_1) (fun _ _ => ⟨rfl, e0, (by decide : 0 + 0 ≤ _), (by decide : 0 + 0 ≤ _)⟩)
  dsimp only [Pt.U, Pt.locs, Pt.cells, Pt.slots] at X1 l1 y1 z1 st1 hQ1
  subst l1 y1 z1
  obtain ⟨rfl, N1q, e1⟩ := hQ1
  have N1 := Fr.app N0 N1q
  obtain ⟨T2, h2, X2, e2, W2, st2⟩ := putF X1 hx hZ hown (host := "") (Or.inl (hw _ (List.mem_of_getElem? (i := 54) rfl))) Via.refl e1 F0 E0 (Or.inr ⟨(hw _ (List.mem_of_getElem? (i := 55) rfl)), rfl, hnm⟩) (hw _ (List.mem_of_getElem? (i := 48) rfl)) (ty := .double) (by decide) rfl rfl (g := (mkF m 6 #[.val (.ref u0), .val (.double r1), .second] [(.double r1), (.ref u0)])) rfl rfl (hb hby d8_6)
  have Fw2 := Fld.same W2 F0
  have N2 := Fr.snoc X2 N1 g0
  have Z2 : n0 ≤ h2.size := Nat.le_trans Z0 (Nat.le_of_eq W2.size.symm)
  have Kp2 := (Keep.refl h0 [u0]).wr W2 (Or.inl (List.mem_of_getElem? (i := 0) rfl))
  obtain ⟨fs, hr, hrun, hended, hW, hsame⟩ := X2.leave (v := none) (fun _ => rfl)
  refine ⟨_, _, ?_, hrun, hended, _, _, rfl, ?_, ⟨_, rfl⟩, hW, hsame.mono (by decide) (by decide)⟩
  · show Steps p.tables e below (s₁.setTop (mkF m 0 #[.val (.ref u0), .val (.double r1), .second] [])) _
    refine XS.aloadN X0.here hx rfl (hb hby d8_0) rfl rfl ?_
    show Steps p.tables e below (s₁.setTop (mkF m 1 #[.val (.ref u0), .val (.double r1), .second] [(.ref u0)])) _
    refine st1.trans ?_
    show Steps p.tables e below (T1.setTop (mkF m 4 #[.val (.ref u0), .val (.double r1), .second] [])) _
    refine XS.aloadN X1.here hx rfl (hb hby d8_4) rfl rfl ?_
    show Steps p.tables e below (T1.setTop (mkF m 5 #[.val (.ref u0), .val (.double r1), .second] [(.ref u0)])) _
    refine XS.dloadN X1.here hx rfl (hb hby d8_5) rfl ?_
    show Steps p.tables e below (T1.setTop (mkF m 6 #[.val (.ref u0), .val (.double r1), .second] [(.double r1), (.ref u0)])) _
    refine st2 _ ?_
    show Steps p.tables e below (T2.setTop (mkF m 9 #[.val (.ref u0), .val (.double r1), .second] [])) _
    exact X2.returnOut hx Bd.returns (hb hby d8_9) hr
  · show Q8 Z u0 r1  h0 n0 _ T2.heap _
    rw [e2]
    exact ⟨rfl, N2, Kp2, (E0.wr W2), Fw2⟩
theorem d6_0 : decode jdk_35_method_26_code 0 = .ok (.aload_n 0, 1) := by decide +kernel
theorem d6_1 : decode jdk_35_method_26_code 1 = .ok (.invokespecial 270, 3) := by decide +kernel
theorem d6_4 : decode jdk_35_method_26_code 4 = .ok (.aload_n 0, 1) := by decide +kernel
theorem d6_5 : decode jdk_35_method_26_code 5 = .ok (.lload_n 1, 1) := by decide +kernel
theorem d6_6 : decode jdk_35_method_26_code 6 = .ok (.putfield 273, 3) := by decide +kernel
theorem d6_9 : decode jdk_35_method_26_code 9 = .ok (.return_, 1) := by decide +kernel
theorem pn_6 : plainName "java/lang/Long" = true := by first | (simp [plainName, overriddenIn]; done) | decide +kernel
theorem ef_6 (m : MethodId) (u0 : Addr) (q1 : Int64)  : entryFrame m #[(.ref u0), (.long q1)] 3 = mkF m 0 #[.val (.ref u0), .val (.long q1), .second] [] := by first | (simp [entryFrame, mkF, argsToLocals, Value.category]; done) | rfl
def Q6 (Z : State) (u0 : Addr) (q1 : Int64) (h0 : Heap) (n0 : Nat) (v : Option Value) (h : Heap) (L : List Loc) : Prop := v = none ∧ Fr n0 L ∧ Keep h0 h [u0] ∧ Exa Z h u0 "java/lang/Long" ∧ Fld Z h u0 "java/lang/Long" "value" "J" (.long q1)
set_option maxRecDepth 65536 in
set_option maxHeartbeats 40000000 in
theorem rm6 (l : Launch) (Z : State) (a0 : Array Value) (hw : ∀ d ∈ tables_1, d.before a0 Z = true) (ws : List Jvm.Cond) (u0 : Addr) (q1 : Int64) (h0 : Heap) (n0 : Nat) (Z0 : n0 ≤ h0.size) (E0 : Exa Z h0 u0 "java/lang/Long") (g0 : n0 ≤ u0) (F0 : Fld Z h0 u0 "java/lang/Long" "value" "J" (.long (0 : Int64))) :
    MetFree l (⟨"java/lang/Long", "<init>", "(J)V"⟩ : MethodName) (head1 (Jvm.Cond.code (⟨"java/lang/Long", "<init>", "(J)V"⟩ : MethodName) jdk_35_method_26_code 3 none :: ws) ({ frames := 2, cells := 0, slots := 0, locals := 24 } : Room)) (fun a U => a = #[(.ref u0), (.long q1)] ∧ Z.Warmed39 U.vm ∧ U.heap = h0) (fun _ _ _ _ _ => True) (fun _ U o U' => ∃ v L, o = .returned v ∧ Q6 Z u0 q1 h0 n0 v U'.heap L ∧ FrameEnd U o U' L ({ frames := 2, cells := 0, slots := 0, locals := 24 } : Room).cells ({ frames := 2, cells := 0, slots := 0, locals := 24 } : Room).slots) := by
  refine MetFree.of_bodySF (plainFor_of_name pn_6) hisR ?_
  intro p e s m args below meth c s₁ Bd hml0 hP hK
  obtain ⟨rfl, hZ, hh⟩ := hP
  have hx := Bd.exec
  have hby := Bd.bytes
  have hml : c.maxLocals = 3 := hml0
  have hown : s.vm.findClass "java/lang/Long" = some m.cls := findClass_of_methodNamed Bd.named
  have hnm := (name_of_methodNamed Bd.named Bd.method).1
  have X0 : Stand p l e ({ frames := 2, cells := 0, slots := 0, locals := 24 } : Room) s m #[(.ref u0), (.long q1)] below meth c s₁ [] 0 0 := Stand.of_body Bd
  have e0 : s₁.heap = h0 := by rw [← hh, Bd.state]; rfl
  have N0 := Fr.nil n0
  have pre0 : ∀ t, Steps p.tables e below (s₁.setTop (mkF m 0 #[.val (.ref u0), .val (.long q1), .second] [])) t → Steps p.tables e below (s₁.setTop (entryFrame m #[(.ref u0), (.long q1)] 3)) t := fun t k => castTop (ef_6 m u0 q1) k
  show Done p e below _ _
  refine Done.of ?_ pre0
  obtain ⟨_, _, ⟨T1, L1, k1, n1⟩, -, X1, ⟨Lc1, hQ1, l1, y1, z1⟩, st1⟩ := X0.specialBack hx (y := (⟨"java/lang/Number", "<init>", "()V"⟩ : MethodName)) rfl hown (mvT hZ (hw _ (List.mem_of_getElem? (i := 34) rfl))) (mvT hZ (hw _ (List.mem_of_getElem? (i := 35) rfl))) (mvT hZ (hw _ (List.mem_of_getElem? (i := 39) rfl))) (by decide) (backOf (W := 0) (rm7 l Z a0 hw [] u0 h0 n0 Z0 ) hZ (hw _ (List.mem_of_getElem? (i := 39) rfl)) (hw _ (List.mem_of_getElem? (i := 38) rfl)) (by decide) (by decide)) (g := (mkF m 1 #[.val (.ref u0), .val (.long q1), .second] [(.ref u0)])) rfl (by rw [hml]; rfl) (Steps.refl _) (a := u0) (argsL := []) (rest := []) (lenOf pd_0 rfl) rfl (by show 2 * 0 + _ ≤ _; exact Nat.le_of_eq rfl) (hb hby d6_1) (fun _ _ => ⟨rfl, e0, (by decide : 0 + 0 ≤ _), (by decide : 0 + 0 ≤ _)⟩)
  dsimp only [Pt.U, Pt.locs, Pt.cells, Pt.slots] at X1 l1 y1 z1 st1 hQ1
  subst l1 y1 z1
  obtain ⟨rfl, N1q, e1⟩ := hQ1
  have N1 := Fr.app N0 N1q
  obtain ⟨T2, h2, X2, e2, W2, st2⟩ := putF X1 hx hZ hown (host := "") (Or.inl (hw _ (List.mem_of_getElem? (i := 41) rfl))) Via.refl e1 F0 E0 (Or.inr ⟨(hw _ (List.mem_of_getElem? (i := 42) rfl)), rfl, hnm⟩) (hw _ (List.mem_of_getElem? (i := 29) rfl)) (ty := .long) (by decide) rfl rfl (g := (mkF m 6 #[.val (.ref u0), .val (.long q1), .second] [(.long q1), (.ref u0)])) rfl rfl (hb hby d6_6)
  have Fw2 := Fld.same W2 F0
  have N2 := Fr.snoc X2 N1 g0
  have Z2 : n0 ≤ h2.size := Nat.le_trans Z0 (Nat.le_of_eq W2.size.symm)
  have Kp2 := (Keep.refl h0 [u0]).wr W2 (Or.inl (List.mem_of_getElem? (i := 0) rfl))
  obtain ⟨fs, hr, hrun, hended, hW, hsame⟩ := X2.leave (v := none) (fun _ => rfl)
  refine ⟨_, _, ?_, hrun, hended, _, _, rfl, ?_, ⟨_, rfl⟩, hW, hsame.mono (by decide) (by decide)⟩
  · show Steps p.tables e below (s₁.setTop (mkF m 0 #[.val (.ref u0), .val (.long q1), .second] [])) _
    refine XS.aloadN X0.here hx rfl (hb hby d6_0) rfl rfl ?_
    show Steps p.tables e below (s₁.setTop (mkF m 1 #[.val (.ref u0), .val (.long q1), .second] [(.ref u0)])) _
    refine st1.trans ?_
    show Steps p.tables e below (T1.setTop (mkF m 4 #[.val (.ref u0), .val (.long q1), .second] [])) _
    refine XS.aloadN X1.here hx rfl (hb hby d6_4) rfl rfl ?_
    show Steps p.tables e below (T1.setTop (mkF m 5 #[.val (.ref u0), .val (.long q1), .second] [(.ref u0)])) _
    refine XS.lloadN X1.here hx rfl (hb hby d6_5) rfl ?_
    show Steps p.tables e below (T1.setTop (mkF m 6 #[.val (.ref u0), .val (.long q1), .second] [(.long q1), (.ref u0)])) _
    refine st2 _ ?_
    show Steps p.tables e below (T2.setTop (mkF m 9 #[.val (.ref u0), .val (.long q1), .second] [])) _
    exact X2.returnOut hx Bd.returns (hb hby d6_9) hr
  · show Q6 Z u0 q1  h0 n0 _ T2.heap _
    rw [e2]
    exact ⟨rfl, N2, Kp2, (E0.wr W2), Fw2⟩
theorem d5_0 : decode jdk_35_method_24_code 0 = .ok (.sipush 128, 3) := by decide +kernel
theorem d5_3 : decode jdk_35_method_24_code 3 = .ok (.istore_n 2, 1) := by decide +kernel
theorem d5_4 : decode jdk_35_method_24_code 4 = .ok (.lload_n 0, 1) := by decide +kernel
theorem d5_5 : decode jdk_35_method_24_code 5 = .ok (.ldc2_w 230, 3) := by decide +kernel
theorem d5_8 : decode jdk_35_method_24_code 8 = .ok (.lcmp, 1) := by decide +kernel
theorem d5_9 : decode jdk_35_method_24_code 9 = .ok (.ifCond .lt 22, 3) := by decide +kernel
theorem d5_12 : decode jdk_35_method_24_code 12 = .ok (.lload_n 0, 1) := by decide +kernel
theorem d5_13 : decode jdk_35_method_24_code 13 = .ok (.ldc2_w 232, 3) := by decide +kernel
theorem d5_16 : decode jdk_35_method_24_code 16 = .ok (.lcmp, 1) := by decide +kernel
theorem d5_17 : decode jdk_35_method_24_code 17 = .ok (.ifCond .gt 14, 3) := by decide +kernel
theorem d5_20 : decode jdk_35_method_24_code 20 = .ok (.getstatic 234, 3) := by decide +kernel
theorem d5_23 : decode jdk_35_method_24_code 23 = .ok (.lload_n 0, 1) := by decide +kernel
theorem d5_24 : decode jdk_35_method_24_code 24 = .ok (.l2i, 1) := by decide +kernel
theorem d5_25 : decode jdk_35_method_24_code 25 = .ok (.sipush 128, 3) := by decide +kernel
theorem d5_28 : decode jdk_35_method_24_code 28 = .ok (.iadd, 1) := by decide +kernel
theorem d5_29 : decode jdk_35_method_24_code 29 = .ok (.aaload, 1) := by decide +kernel
theorem d5_30 : decode jdk_35_method_24_code 30 = .ok (.areturn, 1) := by decide +kernel
theorem d5_31 : decode jdk_35_method_24_code 31 = .ok (.new 1, 3) := by decide +kernel
theorem d5_34 : decode jdk_35_method_24_code 34 = .ok (.dup, 1) := by decide +kernel
theorem d5_35 : decode jdk_35_method_24_code 35 = .ok (.lload_n 0, 1) := by decide +kernel
theorem d5_36 : decode jdk_35_method_24_code 36 = .ok (.invokespecial 240, 3) := by decide +kernel
theorem d5_39 : decode jdk_35_method_24_code 39 = .ok (.areturn, 1) := by decide +kernel
theorem pn_5 : plainName "java/lang/Long" = true := by first | (simp [plainName, overriddenIn]; done) | decide +kernel
theorem pd_1 : parseMethodDescriptor "(J)V" = some ⟨[.long], none⟩ := by decide +kernel
theorem ef_5 (m : MethodId) (q0 : Int64)  : entryFrame m #[(.long q0)] 3 = mkF m 0 #[.val (.long q0), .second, .unset] [] := by first | (simp [entryFrame, mkF, argsToLocals, Value.category]; done) | rfl
def Q5 (Z : State) (q0 : Int64) (aC : Addr) (clC : Cell) (h0 : Heap) (n0 : Nat) (v : Option Value) (h : Heap) (L : List Loc) : Prop := ∃ b : Addr, v = some (.ref b) ∧ Fr n0 L ∧ Keep h0 h [] ∧ Exa Z h b "java/lang/Long"
set_option maxRecDepth 65536 in
set_option maxHeartbeats 40000000 in
theorem rm5 (l : Launch) (Z : State) (a0 : Array Value) (hw : ∀ d ∈ tables_1, d.before a0 Z = true) (ws : List Jvm.Cond) (q0 : Int64) (aC : Addr) (clC : Cell) (h0 : Heap) (n0 : Nat) (Z0 : n0 ≤ h0.size) (SC : Sta Z h0 "java/lang/Long$LongCache" "cache" "[Ljava/lang/Long;" (.ref aC)) (HB : Bxs Z aC clC "java/lang/Long" "J" (256 : Int32) (fun j => .long (j - (128 : Int32)).toInt64)) (OZ : Old Z n0 h0) :
    MetFree l (⟨"java/lang/Long", "valueOf", "(J)Ljava/lang/Long;"⟩ : MethodName) (head1 (Jvm.Cond.code (⟨"java/lang/Long", "valueOf", "(J)Ljava/lang/Long;"⟩ : MethodName) jdk_35_method_24_code 3 (some (.object "java/lang/Long")) :: ws) ({ frames := 3, cells := 1, slots := 1, locals := 39 } : Room)) (fun a U => a = #[(.long q0)] ∧ Z.Warmed39 U.vm ∧ U.heap = h0) (fun _ _ _ _ _ => True) (fun _ U o U' => ∃ v L, o = .returned v ∧ Q5 Z q0 aC clC h0 n0 v U'.heap L ∧ FrameEnd U o U' L ({ frames := 3, cells := 1, slots := 1, locals := 39 } : Room).cells ({ frames := 3, cells := 1, slots := 1, locals := 39 } : Room).slots) := by
  refine MetFree.of_bodySF (plainFor_of_name pn_5) hisR ?_
  intro p e s m args below meth c s₁ Bd hml0 hP hK
  obtain ⟨rfl, hZ, hh⟩ := hP
  have hx := Bd.exec
  have hby := Bd.bytes
  have hml : c.maxLocals = 3 := hml0
  have hown : s.vm.findClass "java/lang/Long" = some m.cls := findClass_of_methodNamed Bd.named
  have hnm := (name_of_methodNamed Bd.named Bd.method).1
  have X0 : Stand p l e ({ frames := 3, cells := 1, slots := 1, locals := 39 } : Room) s m #[(.long q0)] below meth c s₁ [] 0 0 := Stand.of_body Bd
  have e0 : s₁.heap = h0 := by rw [← hh, Bd.state]; rfl
  have N0 := Fr.nil n0
  have pre0 : ∀ t, Steps p.tables e below (s₁.setTop (mkF m 0 #[.val (.long q0), .second, .unset] [])) t → Steps p.tables e below (s₁.setTop (entryFrame m #[(.long q0)] 3)) t := fun t k => castTop (ef_5 m q0) k
  show Done p e below _ _
  refine Done.of ?_ pre0
  have K1 : ∀ target, Steps p.tables e below (s₁.setTop (mkF m 9 #[.val (.long q0), .second, .val (.int (128 : Int32))] [(.int (lcmpW q0 (-128 : Int64)))])) target → Steps p.tables e below (s₁.setTop (mkF m 0 #[.val (.long q0), .second, .unset] [])) target := by
    intro target kt
    show Steps p.tables e below (s₁.setTop (mkF m 0 #[.val (.long q0), .second, .unset] [])) _
    refine XS.sipush X0.here hx rfl (hb hby d5_0) ?_
    show Steps p.tables e below (s₁.setTop (mkF m 3 #[.val (.long q0), .second, .unset] [(.int (128 : Int32))])) _
    refine XS.istoreN X0.here hx rfl (hb hby d5_3) rfl (l' := #[.val (.long q0), .second, .val (.int (128 : Int32))]) rfl ?_
    show Steps p.tables e below (s₁.setTop (mkF m 4 #[.val (.long q0), .second, .val (.int (128 : Int32))] [])) _
    refine XS.lloadN X0.here hx rfl (hb hby d5_4) rfl ?_
    show Steps p.tables e below (s₁.setTop (mkF m 5 #[.val (.long q0), .second, .val (.int (128 : Int32))] [(.long q0)])) _
    refine X0.ldc2Long hx hown (mvT hZ (hw _ (List.mem_of_getElem? (i := 27) rfl))) (g := (mkF m 5 #[.val (.long q0), .second, .val (.int (128 : Int32))] [(.long q0)])) rfl (hb hby d5_5) _ ?_
    show Steps p.tables e below (s₁.setTop (mkF m 8 #[.val (.long q0), .second, .val (.int (128 : Int32))] [(.long (-128 : Int64)), (.long q0)])) _
    refine XS.lcmp X0.here hx rfl (hb hby d5_8) rfl ?_
    exact kt
  refine Done.of ?_ K1
  by_cases hc9_2 : q0 < (-128 : Int64)
  · have K : ∀ target, Steps p.tables e below (s₁.setTop (mkF m 31 #[.val (.long q0), .second, .val (.int (128 : Int32))] [])) target → Steps p.tables e below (s₁.setTop (mkF m 9 #[.val (.long q0), .second, .val (.int (128 : Int32))] [(.int (lcmpW q0 (-128 : Int64)))])) target := by
      intro target kt
      refine XS.ifYes X0.here hx rfl (pc0 := 9) (pc' := 31) rfl (hb hby d5_9) rfl ((if0 _ _).trans (tlt ((lw_lt q0 (-128 : Int64)).mpr hc9_2)).1) (by decide) (by decide) ?_
      exact kt
    refine Done.of ?_ K
    obtain ⟨T3, h3, X3, e3, E3, A3, D3, -, st3⟩ := newO X0 hx hZ hown (hw _ (List.mem_of_getElem? (i := 28) rfl)) (hw _ (List.mem_of_getElem? (i := 29) rfl)) (hw _ (List.mem_of_getElem? (i := 25) rfl)) e0 (g := (mkF m 31 #[.val (.long q0), .second, .val (.int (128 : Int32))] [])) rfl (hb hby d5_31) (by decide) (by decide)
    obtain ⟨b3, g3⟩ : ∃ z, z = h0.size := ⟨_, rfl⟩
    rw [← g3] at A3 D3 st3
    have gnb3 : n0 ≤ b3 := Nat.le_trans Z0 (Nat.le_of_eq g3.symm)
    have Z3 : n0 ≤ h3.size := Nat.le_trans Z0 E3.1
    have szb3 : h0.size ≤ b3 := Nat.le_trans (Keep.refl h0 []).1 (Nat.le_of_eq g3.symm)
    have Kp3 := (Keep.refl h0 []).ext E3
    have F3_value : Fld Z h3 b3 "java/lang/Long" "value" "J" (.long (0 : Int64)) := D3 (Or.inr (hw _ (List.mem_of_getElem? (i := 42) rfl))) (ty := .long) (by decide)
    obtain ⟨_, _, ⟨T4, L4, k4, n4⟩, -, X4, ⟨Lc4, hQ4, l4, y4, z4⟩, st4⟩ := X3.specialBack hx (y := (⟨"java/lang/Long", "<init>", "(J)V"⟩ : MethodName)) rfl hown (mvT hZ (hw _ (List.mem_of_getElem? (i := 30) rfl))) (mvT hZ (hw _ (List.mem_of_getElem? (i := 31) rfl))) (mvT hZ (hw _ (List.mem_of_getElem? (i := 33) rfl))) (by decide) (backOf (W := 1) (rm6 l Z a0 hw [] b3 q0 h3 n0 Z3 A3 gnb3 F3_value) hZ (hw _ (List.mem_of_getElem? (i := 33) rfl)) (hw _ (List.mem_of_getElem? (i := 25) rfl)) (by decide) (by decide)) (g := (mkF m 36 #[.val (.long q0), .second, .val (.int (128 : Int32))] [(.long q0), (.ref b3), (.ref b3)])) rfl (by rw [hml]; rfl) (Steps.refl _) (a := b3) (argsL := [(.long q0)]) (rest := [(.ref b3)]) (lenOf pd_1 rfl) rfl (by show 2 * 0 + _ ≤ _; exact Nat.le_of_eq rfl) (hb hby d5_36) (fun _ _ => ⟨rfl, e3, (by decide : 1 + 0 ≤ _), (by decide : 1 + 0 ≤ _)⟩)
    dsimp only [Pt.U, Pt.locs, Pt.cells, Pt.slots] at X4 l4 y4 z4 st4 hQ4
    subst l4 y4 z4
    obtain ⟨rfl, N4q, K4q, EI4, FI4⟩ := hQ4
    have N4 := Fr.app N0 N4q
    have Z4 : n0 ≤ T4.heap.size := Nat.le_trans Z3 K4q.1
    have Kp4 := Kp3.trans K4q (fun x hx => Or.inr (by cases List.mem_singleton.mp hx; exact szb3))
    obtain ⟨fs, hr, hrun, hended, hW, hsame⟩ := X4.leave (v := some (.ref b3)) (fun h => by rw [Bd.returns] at h; cases h)
    refine ⟨_, _, ?_, hrun, hended, _, _, rfl, ?_, ⟨_, rfl⟩, hW, hsame.mono (by decide) (by decide)⟩
    · show Steps p.tables e below (s₁.setTop (mkF m 31 #[.val (.long q0), .second, .val (.int (128 : Int32))] [])) _
      refine st3 _ ?_
      show Steps p.tables e below (T3.setTop (mkF m 34 #[.val (.long q0), .second, .val (.int (128 : Int32))] [(.ref b3)])) _
      refine XS.dup X3.here hx rfl (hb hby d5_34) rfl rfl ?_
      show Steps p.tables e below (T3.setTop (mkF m 35 #[.val (.long q0), .second, .val (.int (128 : Int32))] [(.ref b3), (.ref b3)])) _
      refine XS.lloadN X3.here hx rfl (hb hby d5_35) rfl ?_
      show Steps p.tables e below (T3.setTop (mkF m 36 #[.val (.long q0), .second, .val (.int (128 : Int32))] [(.long q0), (.ref b3), (.ref b3)])) _
      refine st4.trans ?_
      show Steps p.tables e below (T4.setTop (mkF m 39 #[.val (.long q0), .second, .val (.int (128 : Int32))] [(.ref b3)])) _
      jvm_step X4.here [X4.here.top, hx, (hb hby d5_39), X4.method', Bd.returns, Value.isRef, FieldType.isReference]
      first | (intro acts; rw [hr _ acts rfl rfl rfl]) | rw [hr _ _ rfl rfl rfl]
      exact Steps.refl _
    · show Q5 Z q0 aC clC h0 n0 _ T4.heap _
      exact ⟨b3, rfl, N4, Kp4, EI4⟩
  · have K : ∀ target, Steps p.tables e below (s₁.setTop (mkF m 12 #[.val (.long q0), .second, .val (.int (128 : Int32))] [])) target → Steps p.tables e below (s₁.setTop (mkF m 9 #[.val (.long q0), .second, .val (.int (128 : Int32))] [(.int (lcmpW q0 (-128 : Int64)))])) target := by
      intro target kt
      refine XS.ifNo X0.here hx rfl (hb hby d5_9) rfl ((if0 _ _).trans (flt (fun q => hc9_2 ((lw_lt q0 (-128 : Int64)).mp q))).1) ?_
      exact kt
    refine Done.of ?_ K
    have K5 : ∀ target, Steps p.tables e below (s₁.setTop (mkF m 17 #[.val (.long q0), .second, .val (.int (128 : Int32))] [(.int (lcmpW q0 (127 : Int64)))])) target → Steps p.tables e below (s₁.setTop (mkF m 12 #[.val (.long q0), .second, .val (.int (128 : Int32))] [])) target := by
      intro target kt
      show Steps p.tables e below (s₁.setTop (mkF m 12 #[.val (.long q0), .second, .val (.int (128 : Int32))] [])) _
      refine XS.lloadN X0.here hx rfl (hb hby d5_12) rfl ?_
      show Steps p.tables e below (s₁.setTop (mkF m 13 #[.val (.long q0), .second, .val (.int (128 : Int32))] [(.long q0)])) _
      refine X0.ldc2Long hx hown (mvT hZ (hw _ (List.mem_of_getElem? (i := 58) rfl))) (g := (mkF m 13 #[.val (.long q0), .second, .val (.int (128 : Int32))] [(.long q0)])) rfl (hb hby d5_13) _ ?_
      show Steps p.tables e below (s₁.setTop (mkF m 16 #[.val (.long q0), .second, .val (.int (128 : Int32))] [(.long (127 : Int64)), (.long q0)])) _
      refine XS.lcmp X0.here hx rfl (hb hby d5_16) rfl ?_
      exact kt
    refine Done.of ?_ K5
    by_cases hc17_6 : (127 : Int64) < q0
    · have K : ∀ target, Steps p.tables e below (s₁.setTop (mkF m 31 #[.val (.long q0), .second, .val (.int (128 : Int32))] [])) target → Steps p.tables e below (s₁.setTop (mkF m 17 #[.val (.long q0), .second, .val (.int (128 : Int32))] [(.int (lcmpW q0 (127 : Int64)))])) target := by
        intro target kt
        refine XS.ifYes X0.here hx rfl (pc0 := 17) (pc' := 31) rfl (hb hby d5_17) rfl ((if0 _ _).trans (tlt ((lw_gt q0 (127 : Int64)).mpr hc17_6)).2.2.1) (by decide) (by decide) ?_
        exact kt
      refine Done.of ?_ K
      obtain ⟨T7, h7, X7, e7, E7, A7, D7, -, st7⟩ := newO X0 hx hZ hown (hw _ (List.mem_of_getElem? (i := 28) rfl)) (hw _ (List.mem_of_getElem? (i := 29) rfl)) (hw _ (List.mem_of_getElem? (i := 25) rfl)) e0 (g := (mkF m 31 #[.val (.long q0), .second, .val (.int (128 : Int32))] [])) rfl (hb hby d5_31) (by decide) (by decide)
      obtain ⟨b7, g7⟩ : ∃ z, z = h0.size := ⟨_, rfl⟩
      rw [← g7] at A7 D7 st7
      have gnb7 : n0 ≤ b7 := Nat.le_trans Z0 (Nat.le_of_eq g7.symm)
      have Z7 : n0 ≤ h7.size := Nat.le_trans Z0 E7.1
      have szb7 : h0.size ≤ b7 := Nat.le_trans (Keep.refl h0 []).1 (Nat.le_of_eq g7.symm)
      have Kp7 := (Keep.refl h0 []).ext E7
      have F7_value : Fld Z h7 b7 "java/lang/Long" "value" "J" (.long (0 : Int64)) := D7 (Or.inr (hw _ (List.mem_of_getElem? (i := 42) rfl))) (ty := .long) (by decide)
      obtain ⟨_, _, ⟨T8, L8, k8, n8⟩, -, X8, ⟨Lc8, hQ8, l8, y8, z8⟩, st8⟩ := X7.specialBack hx (y := (⟨"java/lang/Long", "<init>", "(J)V"⟩ : MethodName)) rfl hown (mvT hZ (hw _ (List.mem_of_getElem? (i := 30) rfl))) (mvT hZ (hw _ (List.mem_of_getElem? (i := 31) rfl))) (mvT hZ (hw _ (List.mem_of_getElem? (i := 33) rfl))) (by decide) (backOf (W := 1) (rm6 l Z a0 hw [] b7 q0 h7 n0 Z7 A7 gnb7 F7_value) hZ (hw _ (List.mem_of_getElem? (i := 33) rfl)) (hw _ (List.mem_of_getElem? (i := 25) rfl)) (by decide) (by decide)) (g := (mkF m 36 #[.val (.long q0), .second, .val (.int (128 : Int32))] [(.long q0), (.ref b7), (.ref b7)])) rfl (by rw [hml]; rfl) (Steps.refl _) (a := b7) (argsL := [(.long q0)]) (rest := [(.ref b7)]) (lenOf pd_1 rfl) rfl (by show 2 * 0 + _ ≤ _; exact Nat.le_of_eq rfl) (hb hby d5_36) (fun _ _ => ⟨rfl, e7, (by decide : 1 + 0 ≤ _), (by decide : 1 + 0 ≤ _)⟩)
      dsimp only [Pt.U, Pt.locs, Pt.cells, Pt.slots] at X8 l8 y8 z8 st8 hQ8
      subst l8 y8 z8
      obtain ⟨rfl, N8q, K8q, EI8, FI8⟩ := hQ8
      have N8 := Fr.app N0 N8q
      have Z8 : n0 ≤ T8.heap.size := Nat.le_trans Z7 K8q.1
      have Kp8 := Kp7.trans K8q (fun x hx => Or.inr (by cases List.mem_singleton.mp hx; exact szb7))
      obtain ⟨fs, hr, hrun, hended, hW, hsame⟩ := X8.leave (v := some (.ref b7)) (fun h => by rw [Bd.returns] at h; cases h)
      refine ⟨_, _, ?_, hrun, hended, _, _, rfl, ?_, ⟨_, rfl⟩, hW, hsame.mono (by decide) (by decide)⟩
      · show Steps p.tables e below (s₁.setTop (mkF m 31 #[.val (.long q0), .second, .val (.int (128 : Int32))] [])) _
        refine st7 _ ?_
        show Steps p.tables e below (T7.setTop (mkF m 34 #[.val (.long q0), .second, .val (.int (128 : Int32))] [(.ref b7)])) _
        refine XS.dup X7.here hx rfl (hb hby d5_34) rfl rfl ?_
        show Steps p.tables e below (T7.setTop (mkF m 35 #[.val (.long q0), .second, .val (.int (128 : Int32))] [(.ref b7), (.ref b7)])) _
        refine XS.lloadN X7.here hx rfl (hb hby d5_35) rfl ?_
        show Steps p.tables e below (T7.setTop (mkF m 36 #[.val (.long q0), .second, .val (.int (128 : Int32))] [(.long q0), (.ref b7), (.ref b7)])) _
        refine st8.trans ?_
        show Steps p.tables e below (T8.setTop (mkF m 39 #[.val (.long q0), .second, .val (.int (128 : Int32))] [(.ref b7)])) _
        jvm_step X8.here [X8.here.top, hx, (hb hby d5_39), X8.method', Bd.returns, Value.isRef, FieldType.isReference]
        first | (intro acts; rw [hr _ acts rfl rfl rfl]) | rw [hr _ _ rfl rfl rfl]
        exact Steps.refl _
      · show Q5 Z q0 aC clC h0 n0 _ T8.heap _
        exact ⟨b7, rfl, N8, Kp8, EI8⟩
    · have K : ∀ target, Steps p.tables e below (s₁.setTop (mkF m 20 #[.val (.long q0), .second, .val (.int (128 : Int32))] [])) target → Steps p.tables e below (s₁.setTop (mkF m 17 #[.val (.long q0), .second, .val (.int (128 : Int32))] [(.int (lcmpW q0 (127 : Int64)))])) target := by
        intro target kt
        refine XS.ifNo X0.here hx rfl (hb hby d5_17) rfl ((if0 _ _).trans (flt (fun q => hc17_6 ((lw_gt q0 (127 : Int64)).mp q))).2.2.1) ?_
        exact kt
      refine Done.of ?_ K
      obtain ⟨T9, X9, e9, st9⟩ := getS2 X0 hx hZ hown (host := "") (Or.inl (hw _ (List.mem_of_getElem? (i := 59) rfl))) Via.refl e0 SC (g := (mkF m 20 #[.val (.long q0), .second, .val (.int (128 : Int32))] [])) rfl (hb hby d5_20)
      have hin10 : ¬ (((q0.toInt32) + (128 : Int32)) < 0 ∨ clC.slots.size ≤ (((q0.toInt32) + (128 : Int32))).toNatClampNeg) := own_in HB hc9_2 hc17_6
      obtain ⟨bx10, hat10, EB10, -⟩ := HB.2.2.2 _ hin10
      obtain ⟨fs, hr, hrun, hended, hW, hsame⟩ := X9.leave (v := some (.ref bx10)) (fun h => by rw [Bd.returns] at h; cases h)
      refine ⟨_, _, ?_, hrun, hended, _, _, rfl, ?_, ⟨_, rfl⟩, hW, hsame.mono (by decide) (by decide)⟩
      · show Steps p.tables e below (s₁.setTop (mkF m 20 #[.val (.long q0), .second, .val (.int (128 : Int32))] [])) _
        refine st9 _ ?_
        show Steps p.tables e below (T9.setTop (mkF m 23 #[.val (.long q0), .second, .val (.int (128 : Int32))] [(.ref aC)])) _
        refine XS.lloadN X9.here hx rfl (hb hby d5_23) rfl ?_
        show Steps p.tables e below (T9.setTop (mkF m 24 #[.val (.long q0), .second, .val (.int (128 : Int32))] [(.long q0), (.ref aC)])) _
        refine XS.l2i X9.here hx rfl (hb hby d5_24) rfl ?_
        show Steps p.tables e below (T9.setTop (mkF m 25 #[.val (.long q0), .second, .val (.int (128 : Int32))] [(.int (q0.toInt32)), (.ref aC)])) _
        refine XS.sipush X9.here hx rfl (hb hby d5_25) ?_
        show Steps p.tables e below (T9.setTop (mkF m 28 #[.val (.long q0), .second, .val (.int (128 : Int32))] [(.int (128 : Int32)), (.int (q0.toInt32)), (.ref aC)])) _
        refine XS.iadd X9.here hx rfl (hb hby d5_28) rfl ?_
        show Steps p.tables e below (T9.setTop (mkF m 29 #[.val (.long q0), .second, .val (.int (128 : Int32))] [(.int ((q0.toInt32) + (128 : Int32))), (.ref aC)])) _
        refine X9.aaload hx (j := ((q0.toInt32) + (128 : Int32))) (v := (.ref bx10)) (by rw [e9]; exact (HB.1.ext OZ.2).1) (State.isArrayOf_alike hZ.alike HB.1.2.1) rfl HB.1.2.2 hin10 hat10 (g := (mkF m 29 #[.val (.long q0), .second, .val (.int (128 : Int32))] [(.int ((q0.toInt32) + (128 : Int32))), (.ref aC)])) rfl rfl (hb hby d5_29) _ ?_
        show Steps p.tables e below (T9.setTop (mkF m 30 #[.val (.long q0), .second, .val (.int (128 : Int32))] [(.ref bx10)])) _
        jvm_step X9.here [X9.here.top, hx, (hb hby d5_30), X9.method', Bd.returns, Value.isRef, FieldType.isReference]
        first | (intro acts; rw [hr _ acts rfl rfl rfl]) | rw [hr _ _ rfl rfl rfl]
        exact Steps.refl _
      · show Q5 Z q0 aC clC h0 n0 _ T9.heap _
        rw [e9]
        exact ⟨bx10, rfl, N0, (Keep.refl h0 []), (EB10.ext OZ.2)⟩
theorem d4_0 : decode prog_52_method_2_code 0 = .ok (.aload_n 1, 1) := by decide +kernel
theorem d4_1 : decode prog_52_method_2_code 1 = .ok (.instanceof 8, 3) := by decide +kernel
theorem d4_4 : decode prog_52_method_2_code 4 = .ok (.ifCond .eq 24, 3) := by decide +kernel
theorem d4_7 : decode prog_52_method_2_code 7 = .ok (.aload_n 1, 1) := by decide +kernel
theorem d4_8 : decode prog_52_method_2_code 8 = .ok (.checkcast 8, 3) := by decide +kernel
theorem d4_11 : decode prog_52_method_2_code 11 = .ok (.astore_n 2, 1) := by decide +kernel
theorem d4_12 : decode prog_52_method_2_code 12 = .ok (.aload_n 2, 1) := by decide +kernel
theorem d4_13 : decode prog_52_method_2_code 13 = .ok (.getfield 7, 3) := by decide +kernel
theorem d4_16 : decode prog_52_method_2_code 16 = .ok (.aload_n 0, 1) := by decide +kernel
theorem d4_17 : decode prog_52_method_2_code 17 = .ok (.getfield 7, 3) := by decide +kernel
theorem d4_20 : decode prog_52_method_2_code 20 = .ok (.lcmp, 1) := by decide +kernel
theorem d4_21 : decode prog_52_method_2_code 21 = .ok (.ifCond .ne 7, 3) := by decide +kernel
theorem d4_24 : decode prog_52_method_2_code 24 = .ok (.iconst 1, 1) := by decide +kernel
theorem d4_25 : decode prog_52_method_2_code 25 = .ok (.goto 4, 3) := by decide +kernel
theorem d4_28 : decode prog_52_method_2_code 28 = .ok (.iconst 0, 1) := by decide +kernel
theorem d4_29 : decode prog_52_method_2_code 29 = .ok (.ireturn, 1) := by decide +kernel
theorem pn_4 : plainName "com/example/firepick/firepick/IntegerItem" = true := by first | (simp [plainName, overriddenIn]; done) | decide +kernel
theorem ef_4i (m : MethodId) (u0 : Addr) (u1 : Addr)  : entryFrame m #[(.ref u0), (.ref u1)] 3 = mkF m 0 #[.val (.ref u0), .val (.ref u1), .unset] [] := by first | (simp [entryFrame, mkF, argsToLocals, Value.category]; done) | rfl
def Q4i (Z : State) (u0 : Addr) (u1 : Addr) (w0 : Int64) (w1 : Int64) (h0 : Heap) (n0 : Nat) (v : Option Value) (h : Heap) (L : List Loc) : Prop := v = some (.int (if w1 = w0 then (1 : Int32) else (0 : Int32))) ∧ Fr n0 L ∧ h = h0
set_option maxRecDepth 65536 in
set_option maxHeartbeats 40000000 in
theorem rm4i (l : Launch) (Z : State) (a0 : Array Value) (hw : ∀ d ∈ tables_1, d.before a0 Z = true) (ws : List Jvm.Cond) (u0 : Addr) (u1 : Addr) (w0 : Int64) (w1 : Int64) (h0 : Heap) (n0 : Nat) (Z0 : n0 ≤ h0.size) (F0 : Fld Z h0 u0 "com/example/firepick/firepick/IntegerItem" "value" "J" (.long w0)) (E1 : Exa Z h0 u1 "com/example/firepick/firepick/IntegerItem") (F1 : Fld Z h0 u1 "com/example/firepick/firepick/IntegerItem" "value" "J" (.long w1)) :
    MetFree l (⟨"com/example/firepick/firepick/IntegerItem", "equals", "(Ljava/lang/Object;)Z"⟩ : MethodName) (head1 (Jvm.Cond.code (⟨"com/example/firepick/firepick/IntegerItem", "equals", "(Ljava/lang/Object;)Z"⟩ : MethodName) prog_52_method_2_code 3 (some .boolean) :: ws) ({ frames := 0, cells := 0, slots := 0, locals := 0 } : Room)) (fun a U => a = #[(.ref u0), (.ref u1)] ∧ Z.Warmed39 U.vm ∧ U.heap = h0) (fun _ _ _ _ _ => True) (fun _ U o U' => ∃ v L, o = .returned v ∧ Q4i Z u0 u1 w0 w1 h0 n0 v U'.heap L ∧ FrameEnd U o U' L ({ frames := 0, cells := 0, slots := 0, locals := 0 } : Room).cells ({ frames := 0, cells := 0, slots := 0, locals := 0 } : Room).slots) := by
  refine MetFree.of_bodySF (plainFor_of_name pn_4) hisR ?_
  intro p e s m args below meth c s₁ Bd hml0 hP hK
  obtain ⟨rfl, hZ, hh⟩ := hP
  have hx := Bd.exec
  have hby := Bd.bytes
  have hml : c.maxLocals = 3 := hml0
  have hown : s.vm.findClass "com/example/firepick/firepick/IntegerItem" = some m.cls := findClass_of_methodNamed Bd.named
  have hnm := (name_of_methodNamed Bd.named Bd.method).1
  have X0 : Stand p l e ({ frames := 0, cells := 0, slots := 0, locals := 0 } : Room) s m #[(.ref u0), (.ref u1)] below meth c s₁ [] 0 0 := Stand.of_body Bd
  have e0 : s₁.heap = h0 := by rw [← hh, Bd.state]; rfl
  have N0 := Fr.nil n0
  have pre0 : ∀ t, Steps p.tables e below (s₁.setTop (mkF m 0 #[.val (.ref u0), .val (.ref u1), .unset] [])) t → Steps p.tables e below (s₁.setTop (entryFrame m #[(.ref u0), (.ref u1)] 3)) t := fun t k => castTop (ef_4i m u0 u1) k
  show Done p e below _ _
  refine Done.of ?_ pre0
  obtain ⟨T1, X1, e1, st1⟩ := instY X0 hx hZ hown (hw _ (List.mem_of_getElem? (i := 21) rfl)) e0 (Ins.self E1) (g := (mkF m 1 #[.val (.ref u0), .val (.ref u1), .unset] [(.ref u1)])) rfl rfl (hb hby d4_1)
  obtain ⟨T2, X2, e2, st2⟩ := castY X1 hx hZ hown (hw _ (List.mem_of_getElem? (i := 21) rfl)) e1 (Ins.self E1) (g := (mkF m 8 #[.val (.ref u0), .val (.ref u1), .unset] [(.ref u1)])) rfl rfl (hb hby d4_8)
  obtain ⟨T3, X3, e3, st3⟩ := getF X2 hx hZ hown (host := "") (Or.inl (hw _ (List.mem_of_getElem? (i := 14) rfl))) Via.refl e2 F1 (g := (mkF m 13 #[.val (.ref u0), .val (.ref u1), .val (.ref u1)] [(.ref u1)])) rfl rfl (hb hby d4_13)
  obtain ⟨T4, X4, e4, st4⟩ := getF X3 hx hZ hown (host := "") (Or.inl (hw _ (List.mem_of_getElem? (i := 14) rfl))) Via.refl e3 F0 (g := (mkF m 17 #[.val (.ref u0), .val (.ref u1), .val (.ref u1)] [(.ref u0), (.long w1)])) rfl rfl (hb hby d4_17)
  have J21_5 : ∀ wj : Int32, wj = (if w1 = w0 then (1 : Int32) else (0 : Int32)) → ∀ target, Steps p.tables e below (T4.setTop (mkF m 29 #[.val (.ref u0), .val (.ref u1), .val (.ref u1)] [(.int wj)])) target → Steps p.tables e below (T4.setTop (mkF m 21 #[.val (.ref u0), .val (.ref u1), .val (.ref u1)] [(.int (lcmpW w1 w0))])) target := by
    intro wj hw0 target kt
    by_cases hj21 : w1 = w0
    · rw [if_pos hj21] at hw0
      show Steps p.tables e below (T4.setTop (mkF m 21 #[.val (.ref u0), .val (.ref u1), .val (.ref u1)] [(.int (lcmpW w1 w0))])) _
      refine XS.ifNo X4.here hx rfl (hb hby d4_21) rfl ((if0 _ _).trans (teq ((lw_eq w1 w0).mpr hj21)).2) ?_
      show Steps p.tables e below (T4.setTop (mkF m 24 #[.val (.ref u0), .val (.ref u1), .val (.ref u1)] [])) _
      refine XS.iconst X4.here hx rfl (hb hby d4_24) ?_
      show Steps p.tables e below (T4.setTop (mkF m 25 #[.val (.ref u0), .val (.ref u1), .val (.ref u1)] [(.int (1 : Int32))])) _
      refine XS.goto X4.here hx rfl (pc0 := 25) (pc' := 29) rfl (hb hby d4_25) (by decide) (by decide) ?_
      rw [hw0] at kt
      exact kt
    · rw [if_neg hj21] at hw0
      show Steps p.tables e below (T4.setTop (mkF m 21 #[.val (.ref u0), .val (.ref u1), .val (.ref u1)] [(.int (lcmpW w1 w0))])) _
      refine XS.ifYes X4.here hx rfl (pc0 := 21) (pc' := 28) rfl (hb hby d4_21) rfl ((if0 _ _).trans (feq (fun q => hj21 ((lw_eq w1 w0).mp q))).2) (by decide) (by decide) ?_
      show Steps p.tables e below (T4.setTop (mkF m 28 #[.val (.ref u0), .val (.ref u1), .val (.ref u1)] [])) _
      refine XS.iconst X4.here hx rfl (hb hby d4_28) ?_
      rw [hw0] at kt
      exact kt
  obtain ⟨fs, hr, hrun, hended, hW, hsame⟩ := X4.leave (v := some (.int (nar .boolean (if w1 = w0 then (1 : Int32) else (0 : Int32))))) (fun h => by rw [Bd.returns] at h; cases h)
  refine ⟨_, _, ?_, hrun, hended, _, _, rfl, ?_, ⟨_, rfl⟩, hW, hsame.mono (by decide) (by decide)⟩
  · show Steps p.tables e below (s₁.setTop (mkF m 0 #[.val (.ref u0), .val (.ref u1), .unset] [])) _
    refine XS.aloadN X0.here hx rfl (hb hby d4_0) rfl rfl ?_
    show Steps p.tables e below (s₁.setTop (mkF m 1 #[.val (.ref u0), .val (.ref u1), .unset] [(.ref u1)])) _
    refine st1 _ ?_
    show Steps p.tables e below (T1.setTop (mkF m 4 #[.val (.ref u0), .val (.ref u1), .unset] [(.int (1 : Int32))])) _
    refine XS.ifNo X1.here hx rfl (hb hby d4_4) rfl ((if0 _ _).trans (feq (by decide : ¬ ((1 : Int32) = (0 : Int32)))).1) ?_
    show Steps p.tables e below (T1.setTop (mkF m 7 #[.val (.ref u0), .val (.ref u1), .unset] [])) _
    refine XS.aloadN X1.here hx rfl (hb hby d4_7) rfl rfl ?_
    show Steps p.tables e below (T1.setTop (mkF m 8 #[.val (.ref u0), .val (.ref u1), .unset] [(.ref u1)])) _
    refine st2 _ ?_
    show Steps p.tables e below (T2.setTop (mkF m 11 #[.val (.ref u0), .val (.ref u1), .unset] [(.ref u1)])) _
    refine XS.astoreN X2.here hx rfl (hb hby d4_11) rfl rfl (l' := #[.val (.ref u0), .val (.ref u1), .val (.ref u1)]) rfl ?_
    show Steps p.tables e below (T2.setTop (mkF m 12 #[.val (.ref u0), .val (.ref u1), .val (.ref u1)] [])) _
    refine XS.aloadN X2.here hx rfl (hb hby d4_12) rfl rfl ?_
    show Steps p.tables e below (T2.setTop (mkF m 13 #[.val (.ref u0), .val (.ref u1), .val (.ref u1)] [(.ref u1)])) _
    refine st3 _ ?_
    show Steps p.tables e below (T3.setTop (mkF m 16 #[.val (.ref u0), .val (.ref u1), .val (.ref u1)] [(.long w1)])) _
    refine XS.aloadN X3.here hx rfl (hb hby d4_16) rfl rfl ?_
    show Steps p.tables e below (T3.setTop (mkF m 17 #[.val (.ref u0), .val (.ref u1), .val (.ref u1)] [(.ref u0), (.long w1)])) _
    refine st4 _ ?_
    show Steps p.tables e below (T4.setTop (mkF m 20 #[.val (.ref u0), .val (.ref u1), .val (.ref u1)] [(.long w0), (.long w1)])) _
    refine XS.lcmp X4.here hx rfl (hb hby d4_20) rfl ?_
    show Steps p.tables e below (T4.setTop (mkF m 21 #[.val (.ref u0), .val (.ref u1), .val (.ref u1)] [(.int (lcmpW w1 w0))])) _
    refine J21_5 _ rfl _ ?_
    show Steps p.tables e below (T4.setTop (mkF m 29 #[.val (.ref u0), .val (.ref u1), .val (.ref u1)] [(.int (if w1 = w0 then (1 : Int32) else (0 : Int32)))])) _
    exact retN X4 hx (t := .boolean) Bd.returns (by simp) (hb hby d4_29) hr
  · show Q4i Z u0 u1 w0 w1 h0 n0 _ T4.heap _
    rw [e4]
    refine ⟨?_, N0, rfl⟩
    ((repeat' split) <;> rfl)
theorem ef_4n (m : MethodId) (u0 : Addr)  : entryFrame m #[(.ref u0), .null] 3 = mkF m 0 #[.val (.ref u0), .val .null, .unset] [] := by first | (simp [entryFrame, mkF, argsToLocals, Value.category]; done) | rfl
def Q4n (Z : State) (u0 : Addr) (w0 : Int64) (h0 : Heap) (n0 : Nat) (v : Option Value) (h : Heap) (L : List Loc) : Prop := v = some (.int 0) ∧ Fr n0 L ∧ h = h0
set_option maxRecDepth 65536 in
set_option maxHeartbeats 40000000 in
theorem rm4n (l : Launch) (Z : State) (a0 : Array Value) (hw : ∀ d ∈ tables_1, d.before a0 Z = true) (ws : List Jvm.Cond) (u0 : Addr) (w0 : Int64) (h0 : Heap) (n0 : Nat) (Z0 : n0 ≤ h0.size) (F0 : Fld Z h0 u0 "com/example/firepick/firepick/IntegerItem" "value" "J" (.long w0)) :
    MetFree l (⟨"com/example/firepick/firepick/IntegerItem", "equals", "(Ljava/lang/Object;)Z"⟩ : MethodName) (head1 (Jvm.Cond.code (⟨"com/example/firepick/firepick/IntegerItem", "equals", "(Ljava/lang/Object;)Z"⟩ : MethodName) prog_52_method_2_code 3 (some .boolean) :: ws) ({ frames := 0, cells := 0, slots := 0, locals := 0 } : Room)) (fun a U => a = #[(.ref u0), .null] ∧ Z.Warmed39 U.vm ∧ U.heap = h0) (fun _ _ _ _ _ => True) (fun _ U o U' => ∃ v L, o = .returned v ∧ Q4n Z u0 w0 h0 n0 v U'.heap L ∧ FrameEnd U o U' L ({ frames := 0, cells := 0, slots := 0, locals := 0 } : Room).cells ({ frames := 0, cells := 0, slots := 0, locals := 0 } : Room).slots) := by
  refine MetFree.of_bodySF (plainFor_of_name pn_4) hisR ?_
  intro p e s m args below meth c s₁ Bd hml0 hP hK
  obtain ⟨rfl, hZ, hh⟩ := hP
  have hx := Bd.exec
  have hby := Bd.bytes
  have hml : c.maxLocals = 3 := hml0
  have hown : s.vm.findClass "com/example/firepick/firepick/IntegerItem" = some m.cls := findClass_of_methodNamed Bd.named
  have hnm := (name_of_methodNamed Bd.named Bd.method).1
  have X0 : Stand p l e ({ frames := 0, cells := 0, slots := 0, locals := 0 } : Room) s m #[(.ref u0), .null] below meth c s₁ [] 0 0 := Stand.of_body Bd
  have e0 : s₁.heap = h0 := by rw [← hh, Bd.state]; rfl
  have N0 := Fr.nil n0
  have pre0 : ∀ t, Steps p.tables e below (s₁.setTop (mkF m 0 #[.val (.ref u0), .val .null, .unset] [])) t → Steps p.tables e below (s₁.setTop (entryFrame m #[(.ref u0), .null] 3)) t := fun t k => castTop (ef_4n m u0) k
  show Done p e below _ _
  refine Done.of ?_ pre0
  obtain ⟨fs, hr, hrun, hended, hW, hsame⟩ := X0.leave (v := some (.int (0 : Int32))) (fun h => by rw [Bd.returns] at h; cases h)
  refine ⟨_, _, ?_, hrun, hended, _, _, rfl, ?_, ⟨_, rfl⟩, hW, hsame.mono (by decide) (by decide)⟩
  · show Steps p.tables e below (s₁.setTop (mkF m 0 #[.val (.ref u0), .val .null, .unset] [])) _
    refine XS.aloadN X0.here hx rfl (hb hby d4_0) rfl rfl ?_
    show Steps p.tables e below (s₁.setTop (mkF m 1 #[.val (.ref u0), .val .null, .unset] [.null])) _
    refine X0.instanceofNull hx (g := (mkF m 1 #[.val (.ref u0), .val .null, .unset] [.null])) rfl rfl (hb hby d4_1) _ ?_
    show Steps p.tables e below (s₁.setTop (mkF m 4 #[.val (.ref u0), .val .null, .unset] [(.int (0 : Int32))])) _
    refine XS.ifYes X0.here hx rfl (pc0 := 4) (pc' := 28) rfl (hb hby d4_4) rfl ((if0 _ _).trans (teq (rfl : (0 : Int32) = (0 : Int32))).1) (by decide) (by decide) ?_
    show Steps p.tables e below (s₁.setTop (mkF m 28 #[.val (.ref u0), .val .null, .unset] [])) _
    refine XS.iconst X0.here hx rfl (hb hby d4_28) ?_
    show Steps p.tables e below (s₁.setTop (mkF m 29 #[.val (.ref u0), .val .null, .unset] [(.int (0 : Int32))])) _
    exact retN X0 hx (t := .boolean) Bd.returns (by simp) (hb hby d4_29) hr
  · show Q4n Z u0 w0 h0 n0 _ s₁.heap _
    rw [e0]
    refine ⟨?_, N0, rfl⟩
    rfl
theorem ef_4l (m : MethodId) (u0 : Addr) (u1 : Addr)  : entryFrame m #[(.ref u0), (.ref u1)] 3 = mkF m 0 #[.val (.ref u0), .val (.ref u1), .unset] [] := by first | (simp [entryFrame, mkF, argsToLocals, Value.category]; done) | rfl
def Q4l (Z : State) (u0 : Addr) (u1 : Addr) (w0 : Int64) (h0 : Heap) (n0 : Nat) (v : Option Value) (h : Heap) (L : List Loc) : Prop := v = some (.int 0) ∧ Fr n0 L ∧ h = h0
set_option maxRecDepth 65536 in
set_option maxHeartbeats 40000000 in
theorem rm4l (l : Launch) (Z : State) (a0 : Array Value) (hw : ∀ d ∈ tables_1, d.before a0 Z = true) (ws : List Jvm.Cond) (u0 : Addr) (u1 : Addr) (w0 : Int64) (h0 : Heap) (n0 : Nat) (Z0 : n0 ≤ h0.size) (F0 : Fld Z h0 u0 "com/example/firepick/firepick/IntegerItem" "value" "J" (.long w0)) (E1 : Exa Z h0 u1 "java/lang/Long") :
    MetFree l (⟨"com/example/firepick/firepick/IntegerItem", "equals", "(Ljava/lang/Object;)Z"⟩ : MethodName) (head1 (Jvm.Cond.code (⟨"com/example/firepick/firepick/IntegerItem", "equals", "(Ljava/lang/Object;)Z"⟩ : MethodName) prog_52_method_2_code 3 (some .boolean) :: ws) ({ frames := 0, cells := 0, slots := 0, locals := 0 } : Room)) (fun a U => a = #[(.ref u0), (.ref u1)] ∧ Z.Warmed39 U.vm ∧ U.heap = h0) (fun _ _ _ _ _ => True) (fun _ U o U' => ∃ v L, o = .returned v ∧ Q4l Z u0 u1 w0 h0 n0 v U'.heap L ∧ FrameEnd U o U' L ({ frames := 0, cells := 0, slots := 0, locals := 0 } : Room).cells ({ frames := 0, cells := 0, slots := 0, locals := 0 } : Room).slots) := by
  refine MetFree.of_bodySF (plainFor_of_name pn_4) hisR ?_
  intro p e s m args below meth c s₁ Bd hml0 hP hK
  obtain ⟨rfl, hZ, hh⟩ := hP
  have hx := Bd.exec
  have hby := Bd.bytes
  have hml : c.maxLocals = 3 := hml0
  have hown : s.vm.findClass "com/example/firepick/firepick/IntegerItem" = some m.cls := findClass_of_methodNamed Bd.named
  have hnm := (name_of_methodNamed Bd.named Bd.method).1
  have X0 : Stand p l e ({ frames := 0, cells := 0, slots := 0, locals := 0 } : Room) s m #[(.ref u0), (.ref u1)] below meth c s₁ [] 0 0 := Stand.of_body Bd
  have e0 : s₁.heap = h0 := by rw [← hh, Bd.state]; rfl
  have N0 := Fr.nil n0
  have pre0 : ∀ t, Steps p.tables e below (s₁.setTop (mkF m 0 #[.val (.ref u0), .val (.ref u1), .unset] [])) t → Steps p.tables e below (s₁.setTop (entryFrame m #[(.ref u0), (.ref u1)] 3)) t := fun t k => castTop (ef_4l m u0 u1) k
  show Done p e below _ _
  refine Done.of ?_ pre0
  obtain ⟨T1, X1, e1, st1⟩ := instNo X0 hx hZ hown (hw _ (List.mem_of_getElem? (i := 21) rfl)) e0 E1 (own_no (hw _ (List.mem_of_getElem? (i := 43) rfl)) (hw _ (List.mem_of_getElem? (i := 1) rfl)) (NS.step (hw _ (List.mem_of_getElem? (i := 43) rfl)) (NS.step (hw _ (List.mem_of_getElem? (i := 44) rfl)) (own_root (hw _ (List.mem_of_getElem? (i := 45) rfl)) (hw _ (List.mem_of_getElem? (i := 1) rfl)) (by decide)) (by decide)) (by decide)) (by decide)) (g := (mkF m 1 #[.val (.ref u0), .val (.ref u1), .unset] [(.ref u1)])) rfl rfl (hb hby d4_1)
  obtain ⟨fs, hr, hrun, hended, hW, hsame⟩ := X1.leave (v := some (.int (0 : Int32))) (fun h => by rw [Bd.returns] at h; cases h)
  refine ⟨_, _, ?_, hrun, hended, _, _, rfl, ?_, ⟨_, rfl⟩, hW, hsame.mono (by decide) (by decide)⟩
  · show Steps p.tables e below (s₁.setTop (mkF m 0 #[.val (.ref u0), .val (.ref u1), .unset] [])) _
    refine XS.aloadN X0.here hx rfl (hb hby d4_0) rfl rfl ?_
    show Steps p.tables e below (s₁.setTop (mkF m 1 #[.val (.ref u0), .val (.ref u1), .unset] [(.ref u1)])) _
    refine st1 _ ?_
    show Steps p.tables e below (T1.setTop (mkF m 4 #[.val (.ref u0), .val (.ref u1), .unset] [(.int (0 : Int32))])) _
    refine XS.ifYes X1.here hx rfl (pc0 := 4) (pc' := 28) rfl (hb hby d4_4) rfl ((if0 _ _).trans (teq (rfl : (0 : Int32) = (0 : Int32))).1) (by decide) (by decide) ?_
    show Steps p.tables e below (T1.setTop (mkF m 28 #[.val (.ref u0), .val (.ref u1), .unset] [])) _
    refine XS.iconst X1.here hx rfl (hb hby d4_28) ?_
    show Steps p.tables e below (T1.setTop (mkF m 29 #[.val (.ref u0), .val (.ref u1), .unset] [(.int (0 : Int32))])) _
    exact retN X1 hx (t := .boolean) Bd.returns (by simp) (hb hby d4_29) hr
  · show Q4l Z u0 u1 w0 h0 n0 _ T1.heap _
    rw [e1]
    refine ⟨?_, N0, rfl⟩
    rfl
theorem ef_4d (m : MethodId) (u0 : Addr) (u1 : Addr)  : entryFrame m #[(.ref u0), (.ref u1)] 3 = mkF m 0 #[.val (.ref u0), .val (.ref u1), .unset] [] := by first | (simp [entryFrame, mkF, argsToLocals, Value.category]; done) | rfl
def Q4d (Z : State) (u0 : Addr) (u1 : Addr) (w0 : Int64) (h0 : Heap) (n0 : Nat) (v : Option Value) (h : Heap) (L : List Loc) : Prop := v = some (.int 0) ∧ Fr n0 L ∧ h = h0
set_option maxRecDepth 65536 in
set_option maxHeartbeats 40000000 in
theorem rm4d (l : Launch) (Z : State) (a0 : Array Value) (hw : ∀ d ∈ tables_1, d.before a0 Z = true) (ws : List Jvm.Cond) (u0 : Addr) (u1 : Addr) (w0 : Int64) (h0 : Heap) (n0 : Nat) (Z0 : n0 ≤ h0.size) (F0 : Fld Z h0 u0 "com/example/firepick/firepick/IntegerItem" "value" "J" (.long w0)) (E1 : Exa Z h0 u1 "com/example/firepick/firepick/DecimalItem") :
    MetFree l (⟨"com/example/firepick/firepick/IntegerItem", "equals", "(Ljava/lang/Object;)Z"⟩ : MethodName) (head1 (Jvm.Cond.code (⟨"com/example/firepick/firepick/IntegerItem", "equals", "(Ljava/lang/Object;)Z"⟩ : MethodName) prog_52_method_2_code 3 (some .boolean) :: ws) ({ frames := 0, cells := 0, slots := 0, locals := 0 } : Room)) (fun a U => a = #[(.ref u0), (.ref u1)] ∧ Z.Warmed39 U.vm ∧ U.heap = h0) (fun _ _ _ _ _ => True) (fun _ U o U' => ∃ v L, o = .returned v ∧ Q4d Z u0 u1 w0 h0 n0 v U'.heap L ∧ FrameEnd U o U' L ({ frames := 0, cells := 0, slots := 0, locals := 0 } : Room).cells ({ frames := 0, cells := 0, slots := 0, locals := 0 } : Room).slots) := by
  refine MetFree.of_bodySF (plainFor_of_name pn_4) hisR ?_
  intro p e s m args below meth c s₁ Bd hml0 hP hK
  obtain ⟨rfl, hZ, hh⟩ := hP
  have hx := Bd.exec
  have hby := Bd.bytes
  have hml : c.maxLocals = 3 := hml0
  have hown : s.vm.findClass "com/example/firepick/firepick/IntegerItem" = some m.cls := findClass_of_methodNamed Bd.named
  have hnm := (name_of_methodNamed Bd.named Bd.method).1
  have X0 : Stand p l e ({ frames := 0, cells := 0, slots := 0, locals := 0 } : Room) s m #[(.ref u0), (.ref u1)] below meth c s₁ [] 0 0 := Stand.of_body Bd
  have e0 : s₁.heap = h0 := by rw [← hh, Bd.state]; rfl
  have N0 := Fr.nil n0
  have pre0 : ∀ t, Steps p.tables e below (s₁.setTop (mkF m 0 #[.val (.ref u0), .val (.ref u1), .unset] [])) t → Steps p.tables e below (s₁.setTop (entryFrame m #[(.ref u0), (.ref u1)] 3)) t := fun t k => castTop (ef_4d m u0 u1) k
  show Done p e below _ _
  refine Done.of ?_ pre0
  obtain ⟨T1, X1, e1, st1⟩ := instNo X0 hx hZ hown (hw _ (List.mem_of_getElem? (i := 21) rfl)) e0 E1 (own_no (hw _ (List.mem_of_getElem? (i := 56) rfl)) (hw _ (List.mem_of_getElem? (i := 1) rfl)) (NS.step (hw _ (List.mem_of_getElem? (i := 56) rfl)) (NS.step (hw _ (List.mem_of_getElem? (i := 57) rfl)) (own_root (hw _ (List.mem_of_getElem? (i := 45) rfl)) (hw _ (List.mem_of_getElem? (i := 1) rfl)) (by decide)) (by decide)) (by decide)) (by decide)) (g := (mkF m 1 #[.val (.ref u0), .val (.ref u1), .unset] [(.ref u1)])) rfl rfl (hb hby d4_1)
  obtain ⟨fs, hr, hrun, hended, hW, hsame⟩ := X1.leave (v := some (.int (0 : Int32))) (fun h => by rw [Bd.returns] at h; cases h)
  refine ⟨_, _, ?_, hrun, hended, _, _, rfl, ?_, ⟨_, rfl⟩, hW, hsame.mono (by decide) (by decide)⟩
  · show Steps p.tables e below (s₁.setTop (mkF m 0 #[.val (.ref u0), .val (.ref u1), .unset] [])) _
    refine XS.aloadN X0.here hx rfl (hb hby d4_0) rfl rfl ?_
    show Steps p.tables e below (s₁.setTop (mkF m 1 #[.val (.ref u0), .val (.ref u1), .unset] [(.ref u1)])) _
    refine st1 _ ?_
    show Steps p.tables e below (T1.setTop (mkF m 4 #[.val (.ref u0), .val (.ref u1), .unset] [(.int (0 : Int32))])) _
    refine XS.ifYes X1.here hx rfl (pc0 := 4) (pc' := 28) rfl (hb hby d4_4) rfl ((if0 _ _).trans (teq (rfl : (0 : Int32) = (0 : Int32))).1) (by decide) (by decide) ?_
    show Steps p.tables e below (T1.setTop (mkF m 28 #[.val (.ref u0), .val (.ref u1), .unset] [])) _
    refine XS.iconst X1.here hx rfl (hb hby d4_28) ?_
    show Steps p.tables e below (T1.setTop (mkF m 29 #[.val (.ref u0), .val (.ref u1), .unset] [(.int (0 : Int32))])) _
    exact retN X1 hx (t := .boolean) Bd.returns (by simp) (hb hby d4_29) hr
  · show Q4d Z u0 u1 w0 h0 n0 _ T1.heap _
    rw [e1]
    refine ⟨?_, N0, rfl⟩
    rfl
theorem pn_0 : plainName "com/example/firepick/firepick/IntegerItemEqualsPinLaw" = true := by first | (simp [plainName, overriddenIn]; done) | decide +kernel
theorem pd_2 : parseMethodDescriptor "(Ljava/lang/Object;)Z" = some ⟨[(.object "java/lang/Object")], some .boolean⟩ := by decide +kernel
theorem pd_3 : parseMethodDescriptor "(D)V" = some ⟨[.double], none⟩ := by decide +kernel
theorem pd_4 : parseMethodDescriptor "(J)Ljava/lang/Long;" = some ⟨[.long], some (.object "java/lang/Long")⟩ := by decide +kernel
theorem ef_0 (m : MethodId) (q0 : Int64) (q1 : Int64) (p2 : Int32)  : entryFrame m #[(.long q0), (.long q1), (.int p2)] maxLocals = mkF m 0 #[.val (.long q0), .second, .val (.long q1), .second, .val (.int p2), .unset, .unset, .unset, .unset, .unset, .unset] [] := by first | (simp [entryFrame, mkF, argsToLocals, Value.category, maxLocals]; done) | rfl
def Q0 (Z : State) (q0 : Int64) (q1 : Int64) (p2 : Int32) (aC : Addr) (clC : Cell) (h0 : Heap) (n0 : Nat) (v : Option Value) (h : Heap) (L : List Loc) : Prop := v = some (.int 1) ∧ Fr n0 L
set_option maxRecDepth 65536 in
set_option maxHeartbeats 40000000 in
theorem rm0 (l : Launch) (Z : State) (a0 : Array Value) (hw : ∀ d ∈ tables_1, d.before a0 Z = true) (ws : List Jvm.Cond) (q0 : Int64) (q1 : Int64) (p2 : Int32) (aC : Addr) (clC : Cell) (h0 : Heap) (n0 : Nat) (Z0 : n0 ≤ h0.size) (SC : Sta Z Z.heap "java/lang/Long$LongCache" "cache" "[Ljava/lang/Long;" (.ref aC)) (HB : Bxs Z aC clC "java/lang/Long" "J" (256 : Int32) (fun j => .long (j - (128 : Int32)).toInt64)) (OZ : Old Z n0 h0) :
    MetFree l x (head1 (Jvm.Cond.code x code maxLocals ret :: ws) room_1) (fun a U => a = #[(.long q0), (.long q1), (.int p2)] ∧ Z.Warmed39 U.vm ∧ U.heap = h0) (fun _ _ _ _ _ => True) (fun _ U o U' => ∃ v L, o = .returned v ∧ Q0 Z q0 q1 p2 aC clC h0 n0 v U'.heap L ∧ FrameEnd U o U' L room_1.cells room_1.slots) := by
  refine MetFree.of_bodySF (plainFor_of_name pn_0) hisR ?_
  intro p e s m args below meth c s₁ Bd hml0 hP hK
  obtain ⟨rfl, hZ, hh⟩ := hP
  have hx := Bd.exec
  have hby := Bd.bytes
  have hml : c.maxLocals = 11 := hml0
  have hown : s.vm.findClass "com/example/firepick/firepick/IntegerItemEqualsPinLaw" = some m.cls := findClass_of_methodNamed Bd.named
  have hnm := (name_of_methodNamed Bd.named Bd.method).1
  have X0 : Stand p l e room_1 s m #[(.long q0), (.long q1), (.int p2)] below meth c s₁ [] 0 0 := Stand.of_body Bd
  have e0 : s₁.heap = h0 := by rw [← hh, Bd.state]; rfl
  have N0 := Fr.nil n0
  have pre0 : ∀ t, Steps p.tables e below (s₁.setTop (mkF m 0 #[.val (.long q0), .second, .val (.long q1), .second, .val (.int p2), .unset, .unset, .unset, .unset, .unset, .unset] [])) t → Steps p.tables e below (s₁.setTop (entryFrame m #[(.long q0), (.long q1), (.int p2)] maxLocals)) t := fun t k => castTop (ef_0 m q0 q1 p2) k
  show Done p e below _ _
  refine Done.of ?_ pre0
  obtain ⟨v1, ev1⟩ : ∃ z : Int32, z = (p2 &&& (3 : Int32)) := ⟨_, rfl⟩
  have K2 : ∀ target, Steps p.tables e below (s₁.setTop (mkF m 9 #[.val (.long q0), .second, .val (.long q1), .second, .val (.int p2), .val (.int v1), .unset, .unset, .unset, .unset, .unset] [(.int (2 : Int32)), (.int v1)])) target → Steps p.tables e below (s₁.setTop (mkF m 0 #[.val (.long q0), .second, .val (.long q1), .second, .val (.int p2), .unset, .unset, .unset, .unset, .unset, .unset] [])) target := by
    intro target kt
    show Steps p.tables e below (s₁.setTop (mkF m 0 #[.val (.long q0), .second, .val (.long q1), .second, .val (.int p2), .unset, .unset, .unset, .unset, .unset, .unset] [])) _
    refine XS.iload X0.here hx rfl (hb hby at_0) rfl ?_
    show Steps p.tables e below (s₁.setTop (mkF m 2 #[.val (.long q0), .second, .val (.long q1), .second, .val (.int p2), .unset, .unset, .unset, .unset, .unset, .unset] [(.int p2)])) _
    refine XS.iconst X0.here hx rfl (hb hby at_2) ?_
    show Steps p.tables e below (s₁.setTop (mkF m 3 #[.val (.long q0), .second, .val (.long q1), .second, .val (.int p2), .unset, .unset, .unset, .unset, .unset, .unset] [(.int (3 : Int32)), (.int p2)])) _
    refine XS.iand X0.here hx rfl (hb hby at_3) rfl ?_
    show Steps p.tables e below (s₁.setTop (mkF m 4 #[.val (.long q0), .second, .val (.long q1), .second, .val (.int p2), .unset, .unset, .unset, .unset, .unset, .unset] [(.int (p2 &&& (3 : Int32)))])) _
    rw [← ev1]
    show Steps p.tables e below (s₁.setTop (mkF m 4 #[.val (.long q0), .second, .val (.long q1), .second, .val (.int p2), .unset, .unset, .unset, .unset, .unset, .unset] [(.int v1)])) _
    refine XS.istore X0.here hx rfl (hb hby at_4) rfl (l' := #[.val (.long q0), .second, .val (.long q1), .second, .val (.int p2), .val (.int v1), .unset, .unset, .unset, .unset, .unset]) rfl ?_
    show Steps p.tables e below (s₁.setTop (mkF m 6 #[.val (.long q0), .second, .val (.long q1), .second, .val (.int p2), .val (.int v1), .unset, .unset, .unset, .unset, .unset] [])) _
    refine XS.iload X0.here hx rfl (hb hby at_6) rfl ?_
    show Steps p.tables e below (s₁.setTop (mkF m 8 #[.val (.long q0), .second, .val (.long q1), .second, .val (.int p2), .val (.int v1), .unset, .unset, .unset, .unset, .unset] [(.int v1)])) _
    refine XS.iconst X0.here hx rfl (hb hby at_8) ?_
    exact kt
  refine Done.of ?_ K2
  by_cases hc9_3 : v1 = (2 : Int32)
  · have K : ∀ target, Steps p.tables e below (s₁.setTop (mkF m 12 #[.val (.long q0), .second, .val (.long q1), .second, .val (.int p2), .val (.int v1), .unset, .unset, .unset, .unset, .unset] [])) target → Steps p.tables e below (s₁.setTop (mkF m 9 #[.val (.long q0), .second, .val (.long q1), .second, .val (.int p2), .val (.int v1), .unset, .unset, .unset, .unset, .unset] [(.int (2 : Int32)), (.int v1)])) target := by
      intro target kt
      refine XS.icmpNo X0.here hx rfl (hb hby at_9) rfl (teq hc9_3).2 ?_
      exact kt
    refine Done.of ?_ K
    obtain ⟨v4, ev4⟩ : ∃ z : Int64, z = (q0 &&& (65535 : Int64)) := ⟨_, rfl⟩
    obtain ⟨T5, h5, X5, e5, E5, A5, D5, -, st5⟩ := newO X0 hx hZ hown (hw _ (List.mem_of_getElem? (i := 0) rfl)) (hw _ (List.mem_of_getElem? (i := 1) rfl)) (hw _ (List.mem_of_getElem? (i := 2) rfl)) e0 (g := (mkF m 23 #[.val (.long q0), .second, .val (.long q1), .second, .val (.int p2), .val (.int v1), .val (.long v4), .second, .unset, .unset, .unset] [])) rfl (hb hby at_23) (by decide) (by decide)
    obtain ⟨b5, g5⟩ : ∃ z, z = h0.size := ⟨_, rfl⟩
    rw [← g5] at A5 D5 st5
    have gnb5 : n0 ≤ b5 := Nat.le_trans Z0 (Nat.le_of_eq g5.symm)
    have Z5 : n0 ≤ h5.size := Nat.le_trans Z0 E5.1
    have F5_value : Fld Z h5 b5 "com/example/firepick/firepick/IntegerItem" "value" "J" (.long (0 : Int64)) := D5 (Or.inr (hw _ (List.mem_of_getElem? (i := 15) rfl))) (ty := .long) (by decide)
    obtain ⟨_, _, ⟨T6, L6, k6, n6⟩, -, X6, ⟨Lc6, hQ6, l6, y6, z6⟩, st6⟩ := X5.specialBack hx (y := (⟨"com/example/firepick/firepick/IntegerItem", "<init>", "(J)V"⟩ : MethodName)) rfl hown (mvT hZ (hw _ (List.mem_of_getElem? (i := 3) rfl))) (mvT hZ (hw _ (List.mem_of_getElem? (i := 4) rfl))) (mvT hZ (hw _ (List.mem_of_getElem? (i := 5) rfl))) (by decide) (backOf (W := 1) (rm1 l Z a0 hw [] b5 v4 h5 n0 Z5 A5 gnb5 F5_value) hZ (hw _ (List.mem_of_getElem? (i := 5) rfl)) (hw _ (List.mem_of_getElem? (i := 2) rfl)) (by decide) (by decide)) (g := (mkF m 29 #[.val (.long q0), .second, .val (.long q1), .second, .val (.int p2), .val (.int v1), .val (.long v4), .second, .unset, .unset, .unset] [(.long v4), (.ref b5), (.ref b5)])) rfl (by rw [hml]; rfl) (Steps.refl _) (a := b5) (argsL := [(.long v4)]) (rest := [(.ref b5)]) (lenOf pd_1 rfl) rfl (by show 2 * 0 + _ ≤ _; exact Nat.le_of_eq rfl) (hb hby at_29) (fun _ _ => ⟨rfl, e5, (by decide : 1 + 0 ≤ _), (by decide : 1 + 0 ≤ _)⟩)
    dsimp only [Pt.U, Pt.locs, Pt.cells, Pt.slots] at X6 l6 y6 z6 st6 hQ6
    subst l6 y6 z6
    obtain ⟨rfl, N6q, K6q, EI6, FI6⟩ := hQ6
    have N6 := Fr.app N0 N6q
    have Z6 : n0 ≤ T6.heap.size := Nat.le_trans Z5 K6q.1
    have K7 : ∀ target, Steps p.tables e below (T6.setTop (mkF m 36 #[.val (.long q0), .second, .val (.long q1), .second, .val (.int p2), .val (.int v1), .val (.long v4), .second, .val (.ref b5), .unset, .unset] [(.int v1)])) target → Steps p.tables e below (s₁.setTop (mkF m 12 #[.val (.long q0), .second, .val (.long q1), .second, .val (.int p2), .val (.int v1), .unset, .unset, .unset, .unset, .unset] [])) target := by
      intro target kt
      show Steps p.tables e below (s₁.setTop (mkF m 12 #[.val (.long q0), .second, .val (.long q1), .second, .val (.int p2), .val (.int v1), .unset, .unset, .unset, .unset, .unset] [])) _
      refine XS.lloadN X0.here hx rfl (hb hby at_12) rfl ?_
      show Steps p.tables e below (s₁.setTop (mkF m 13 #[.val (.long q0), .second, .val (.long q1), .second, .val (.int p2), .val (.int v1), .unset, .unset, .unset, .unset, .unset] [(.long q0)])) _
      refine X0.ldc2Long hx hown (mvT hZ (hw _ (List.mem_of_getElem? (i := 46) rfl))) (g := (mkF m 13 #[.val (.long q0), .second, .val (.long q1), .second, .val (.int p2), .val (.int v1), .unset, .unset, .unset, .unset, .unset] [(.long q0)])) rfl (hb hby at_13) _ ?_
      show Steps p.tables e below (s₁.setTop (mkF m 16 #[.val (.long q0), .second, .val (.long q1), .second, .val (.int p2), .val (.int v1), .unset, .unset, .unset, .unset, .unset] [(.long (65535 : Int64)), (.long q0)])) _
      refine XS.land X0.here hx rfl (hb hby at_16) rfl ?_
      show Steps p.tables e below (s₁.setTop (mkF m 17 #[.val (.long q0), .second, .val (.long q1), .second, .val (.int p2), .val (.int v1), .unset, .unset, .unset, .unset, .unset] [(.long (q0 &&& (65535 : Int64)))])) _
      refine XS.goto X0.here hx rfl (pc0 := 17) (pc' := 21) rfl (hb hby at_17) (by decide) (by decide) ?_
      show Steps p.tables e below (s₁.setTop (mkF m 21 #[.val (.long q0), .second, .val (.long q1), .second, .val (.int p2), .val (.int v1), .unset, .unset, .unset, .unset, .unset] [(.long (q0 &&& (65535 : Int64)))])) _
      rw [← ev4]
      show Steps p.tables e below (s₁.setTop (mkF m 21 #[.val (.long q0), .second, .val (.long q1), .second, .val (.int p2), .val (.int v1), .unset, .unset, .unset, .unset, .unset] [(.long v4)])) _
      refine XS.lstore X0.here hx rfl (hb hby at_21) rfl (l' := #[.val (.long q0), .second, .val (.long q1), .second, .val (.int p2), .val (.int v1), .val (.long v4), .second, .unset, .unset, .unset]) rfl ?_
      show Steps p.tables e below (s₁.setTop (mkF m 23 #[.val (.long q0), .second, .val (.long q1), .second, .val (.int p2), .val (.int v1), .val (.long v4), .second, .unset, .unset, .unset] [])) _
      refine st5 _ ?_
      show Steps p.tables e below (T5.setTop (mkF m 26 #[.val (.long q0), .second, .val (.long q1), .second, .val (.int p2), .val (.int v1), .val (.long v4), .second, .unset, .unset, .unset] [(.ref b5)])) _
      refine XS.dup X5.here hx rfl (hb hby at_26) rfl rfl ?_
      show Steps p.tables e below (T5.setTop (mkF m 27 #[.val (.long q0), .second, .val (.long q1), .second, .val (.int p2), .val (.int v1), .val (.long v4), .second, .unset, .unset, .unset] [(.ref b5), (.ref b5)])) _
      refine XS.lload X5.here hx rfl (hb hby at_27) rfl ?_
      show Steps p.tables e below (T5.setTop (mkF m 29 #[.val (.long q0), .second, .val (.long q1), .second, .val (.int p2), .val (.int v1), .val (.long v4), .second, .unset, .unset, .unset] [(.long v4), (.ref b5), (.ref b5)])) _
      refine st6.trans ?_
      show Steps p.tables e below (T6.setTop (mkF m 32 #[.val (.long q0), .second, .val (.long q1), .second, .val (.int p2), .val (.int v1), .val (.long v4), .second, .unset, .unset, .unset] [(.ref b5)])) _
      refine XS.astore X6.here hx rfl (hb hby at_32) rfl rfl (l' := #[.val (.long q0), .second, .val (.long q1), .second, .val (.int p2), .val (.int v1), .val (.long v4), .second, .val (.ref b5), .unset, .unset]) rfl ?_
      show Steps p.tables e below (T6.setTop (mkF m 34 #[.val (.long q0), .second, .val (.long q1), .second, .val (.int p2), .val (.int v1), .val (.long v4), .second, .val (.ref b5), .unset, .unset] [])) _
      refine XS.iload X6.here hx rfl (hb hby at_34) rfl ?_
      exact kt
    refine Done.of ?_ K7
    by_cases hc36_8 : v1 = (0 : Int32)
    · have K : ∀ target, Steps p.tables e below (T6.setTop (mkF m 39 #[.val (.long q0), .second, .val (.long q1), .second, .val (.int p2), .val (.int v1), .val (.long v4), .second, .val (.ref b5), .unset, .unset] [])) target → Steps p.tables e below (T6.setTop (mkF m 36 #[.val (.long q0), .second, .val (.long q1), .second, .val (.int p2), .val (.int v1), .val (.long v4), .second, .val (.ref b5), .unset, .unset] [(.int v1)])) target := by
        intro target kt
        refine XS.ifNo X6.here hx rfl (hb hby at_36) rfl ((if0 _ _).trans (teq hc36_8).2) ?_
        exact kt
      refine Done.of ?_ K
      obtain ⟨T9, h9, X9, e9, E9, A9, D9, -, st9⟩ := newO X6 hx hZ hown (hw _ (List.mem_of_getElem? (i := 0) rfl)) (hw _ (List.mem_of_getElem? (i := 1) rfl)) (hw _ (List.mem_of_getElem? (i := 2) rfl)) rfl (g := (mkF m 39 #[.val (.long q0), .second, .val (.long q1), .second, .val (.int p2), .val (.int v1), .val (.long v4), .second, .val (.ref b5), .unset, .unset] [])) rfl (hb hby at_39) (by decide) (by decide)
      obtain ⟨b9, g9⟩ : ∃ z, z = T6.heap.size := ⟨_, rfl⟩
      rw [← g9] at A9 D9 st9
      have gnb9 : n0 ≤ b9 := Nat.le_trans Z6 (Nat.le_of_eq g9.symm)
      have Z9 : n0 ≤ h9.size := Nat.le_trans Z6 E9.1
      have ne_9_1 : b5 ≠ b9 := Nat.ne_of_lt (Nat.lt_of_lt_of_le EI6.lt (Nat.le_of_eq g9.symm))
      have F9_value : Fld Z h9 b9 "com/example/firepick/firepick/IntegerItem" "value" "J" (.long (0 : Int64)) := D9 (Or.inr (hw _ (List.mem_of_getElem? (i := 15) rfl))) (ty := .long) (by decide)
      obtain ⟨_, _, ⟨T10, L10, k10, n10⟩, -, X10, ⟨Lc10, hQ10, l10, y10, z10⟩, st10⟩ := X9.specialBack hx (y := (⟨"com/example/firepick/firepick/IntegerItem", "<init>", "(J)V"⟩ : MethodName)) rfl hown (mvT hZ (hw _ (List.mem_of_getElem? (i := 3) rfl))) (mvT hZ (hw _ (List.mem_of_getElem? (i := 4) rfl))) (mvT hZ (hw _ (List.mem_of_getElem? (i := 5) rfl))) (by decide) (backOf (W := 1) (rm1 l Z a0 hw [] b9 q1 h9 n0 Z9 A9 gnb9 F9_value) hZ (hw _ (List.mem_of_getElem? (i := 5) rfl)) (hw _ (List.mem_of_getElem? (i := 2) rfl)) (by decide) (by decide)) (g := (mkF m 44 #[.val (.long q0), .second, .val (.long q1), .second, .val (.int p2), .val (.int v1), .val (.long v4), .second, .val (.ref b5), .unset, .unset] [(.long q1), (.ref b9), (.ref b9)])) rfl (by rw [hml]; rfl) (Steps.refl _) (a := b9) (argsL := [(.long q1)]) (rest := [(.ref b9)]) (lenOf pd_1 rfl) rfl (by show 2 * 0 + _ ≤ _; exact Nat.le_of_eq rfl) (hb hby at_44) (fun _ _ => ⟨rfl, e9, (by decide : 2 + 0 ≤ _), (by decide : 2 + 0 ≤ _)⟩)
      dsimp only [Pt.U, Pt.locs, Pt.cells, Pt.slots] at X10 l10 y10 z10 st10 hQ10
      subst l10 y10 z10
      obtain ⟨rfl, N10q, K10q, EI10, FI10⟩ := hQ10
      have N10 := Fr.app N6 N10q
      have Z10 : n0 ≤ T10.heap.size := Nat.le_trans Z9 K10q.1
      have J53_11 : ∀ wj : Int32, wj = (if v4 = q1 then (1 : Int32) else (0 : Int32)) → ∀ target, Steps p.tables e below (T10.setTop (mkF m 61 #[.val (.long q0), .second, .val (.long q1), .second, .val (.int p2), .val (.int v1), .val (.long v4), .second, .val (.ref b5), .val (.ref b9), .unset] [(.int wj)])) target → Steps p.tables e below (T10.setTop (mkF m 53 #[.val (.long q0), .second, .val (.long q1), .second, .val (.int p2), .val (.int v1), .val (.long v4), .second, .val (.ref b5), .val (.ref b9), .unset] [(.int (lcmpW v4 q1))])) target := by
        intro wj hw0 target kt
        by_cases hj53 : v4 = q1
        · rw [if_pos hj53] at hw0
          show Steps p.tables e below (T10.setTop (mkF m 53 #[.val (.long q0), .second, .val (.long q1), .second, .val (.int p2), .val (.int v1), .val (.long v4), .second, .val (.ref b5), .val (.ref b9), .unset] [(.int (lcmpW v4 q1))])) _
          refine XS.ifNo X10.here hx rfl (hb hby at_53) rfl ((if0 _ _).trans (teq ((lw_eq v4 q1).mpr hj53)).2) ?_
          show Steps p.tables e below (T10.setTop (mkF m 56 #[.val (.long q0), .second, .val (.long q1), .second, .val (.int p2), .val (.int v1), .val (.long v4), .second, .val (.ref b5), .val (.ref b9), .unset] [])) _
          refine XS.iconst X10.here hx rfl (hb hby at_56) ?_
          show Steps p.tables e below (T10.setTop (mkF m 57 #[.val (.long q0), .second, .val (.long q1), .second, .val (.int p2), .val (.int v1), .val (.long v4), .second, .val (.ref b5), .val (.ref b9), .unset] [(.int (1 : Int32))])) _
          refine XS.goto X10.here hx rfl (pc0 := 57) (pc' := 61) rfl (hb hby at_57) (by decide) (by decide) ?_
          rw [hw0] at kt
          exact kt
        · rw [if_neg hj53] at hw0
          show Steps p.tables e below (T10.setTop (mkF m 53 #[.val (.long q0), .second, .val (.long q1), .second, .val (.int p2), .val (.int v1), .val (.long v4), .second, .val (.ref b5), .val (.ref b9), .unset] [(.int (lcmpW v4 q1))])) _
          refine XS.ifYes X10.here hx rfl (pc0 := 53) (pc' := 60) rfl (hb hby at_53) rfl ((if0 _ _).trans (feq (fun q => hj53 ((lw_eq v4 q1).mp q))).2) (by decide) (by decide) ?_
          show Steps p.tables e below (T10.setTop (mkF m 60 #[.val (.long q0), .second, .val (.long q1), .second, .val (.int p2), .val (.int v1), .val (.long v4), .second, .val (.ref b5), .val (.ref b9), .unset] [])) _
          refine XS.iconst X10.here hx rfl (hb hby at_60) ?_
          rw [hw0] at kt
          exact kt
      obtain ⟨cq12, kq12, q12a, q12b, q12c⟩ := isOf hZ rfl ((EI6.ext E9).keep K10q)
      obtain ⟨_, _, ⟨T12, L12, k12, n12⟩, -, X12, ⟨Lc12, hQ12, l12, y12, z12⟩, st12⟩ := X10.virtualBack hx (y := (⟨"com/example/firepick/firepick/IntegerItem", "equals", "(Ljava/lang/Object;)Z"⟩ : MethodName)) (z := (⟨"com/example/firepick/firepick/IntegerItem", "equals", "(Ljava/lang/Object;)Z"⟩ : MethodName)) hown (mvT hZ (hw _ (List.mem_of_getElem? (i := 16) rfl))) (mvT hZ (hw _ (List.mem_of_getElem? (i := 17) rfl))) (notFace_of_selects (args := #[]) (mvT hZ (hw _ (List.mem_of_getElem? (i := 19) rfl)))) (mvT hZ (hw _ (List.mem_of_getElem? (i := 19) rfl))) (mvT hZ (hw _ (List.mem_of_getElem? (i := 18) rfl))) (by decide) (backOf (W := 0) (rm4i l Z a0 hw [] b5 b9 v4 q1 T10.heap n0 Z10 ((FI6.ext E9).keep K10q (fun hq => ne_9_1 (List.mem_singleton.mp hq))) EI10 FI10) hZ (hw _ (List.mem_of_getElem? (i := 20) rfl)) (hw _ (List.mem_of_getElem? (i := 2) rfl)) (by decide) (by decide)) q12a q12c (g := (mkF m 141 #[.val (.long q0), .second, .val (.long q1), .second, .val (.int p2), .val (.int v1), .val (.long v4), .second, .val (.ref b5), .val (.ref b9), .val (.int (if v4 = q1 then (1 : Int32) else (0 : Int32)))] [(.ref b9), (.ref b5)])) rfl (by rw [hml]; rfl) (Steps.refl _) (argsL := [(.ref b9)]) (rest := []) (lenOf pd_2 rfl) rfl (by show 2 * 0 + _ ≤ _; exact Nat.le_of_eq rfl) (hb hby at_141) (fun _ _ => ⟨rfl, rfl, (by decide : 2 + 0 ≤ _), (by decide : 2 + 0 ≤ _)⟩)
      dsimp only [Pt.U, Pt.locs, Pt.cells, Pt.slots] at X12 l12 y12 z12 st12 hQ12
      subst l12 y12 z12
      obtain ⟨rfl, N12q, e12⟩ := hQ12
      have N12 := Fr.app N10 N12q
      have J146_13 : ∀ wj : Int32, wj = (if (if q1 = v4 then (1 : Int32) else (0 : Int32)) = (if v4 = q1 then (1 : Int32) else (0 : Int32)) then (1 : Int32) else (0 : Int32)) → ∀ target, Steps p.tables e below (T12.setTop (mkF m 154 #[.val (.long q0), .second, .val (.long q1), .second, .val (.int p2), .val (.int v1), .val (.long v4), .second, .val (.ref b5), .val (.ref b9), .val (.int (if v4 = q1 then (1 : Int32) else (0 : Int32)))] [(.int wj)])) target → Steps p.tables e below (T12.setTop (mkF m 146 #[.val (.long q0), .second, .val (.long q1), .second, .val (.int p2), .val (.int v1), .val (.long v4), .second, .val (.ref b5), .val (.ref b9), .val (.int (if v4 = q1 then (1 : Int32) else (0 : Int32)))] [(.int (if v4 = q1 then (1 : Int32) else (0 : Int32))), (.int (if q1 = v4 then (1 : Int32) else (0 : Int32)))])) target := by
        intro wj hw0 target kt
        by_cases hj146 : (if q1 = v4 then (1 : Int32) else (0 : Int32)) = (if v4 = q1 then (1 : Int32) else (0 : Int32))
        · rw [if_pos hj146] at hw0
          show Steps p.tables e below (T12.setTop (mkF m 146 #[.val (.long q0), .second, .val (.long q1), .second, .val (.int p2), .val (.int v1), .val (.long v4), .second, .val (.ref b5), .val (.ref b9), .val (.int (if v4 = q1 then (1 : Int32) else (0 : Int32)))] [(.int (if v4 = q1 then (1 : Int32) else (0 : Int32))), (.int (if q1 = v4 then (1 : Int32) else (0 : Int32)))])) _
          refine XS.icmpNo X12.here hx rfl (hb hby at_146) rfl (teq hj146).2 ?_
          show Steps p.tables e below (T12.setTop (mkF m 149 #[.val (.long q0), .second, .val (.long q1), .second, .val (.int p2), .val (.int v1), .val (.long v4), .second, .val (.ref b5), .val (.ref b9), .val (.int (if v4 = q1 then (1 : Int32) else (0 : Int32)))] [])) _
          refine XS.iconst X12.here hx rfl (hb hby at_149) ?_
          show Steps p.tables e below (T12.setTop (mkF m 150 #[.val (.long q0), .second, .val (.long q1), .second, .val (.int p2), .val (.int v1), .val (.long v4), .second, .val (.ref b5), .val (.ref b9), .val (.int (if v4 = q1 then (1 : Int32) else (0 : Int32)))] [(.int (1 : Int32))])) _
          refine XS.goto X12.here hx rfl (pc0 := 150) (pc' := 154) rfl (hb hby at_150) (by decide) (by decide) ?_
          rw [hw0] at kt
          exact kt
        · rw [if_neg hj146] at hw0
          show Steps p.tables e below (T12.setTop (mkF m 146 #[.val (.long q0), .second, .val (.long q1), .second, .val (.int p2), .val (.int v1), .val (.long v4), .second, .val (.ref b5), .val (.ref b9), .val (.int (if v4 = q1 then (1 : Int32) else (0 : Int32)))] [(.int (if v4 = q1 then (1 : Int32) else (0 : Int32))), (.int (if q1 = v4 then (1 : Int32) else (0 : Int32)))])) _
          refine XS.icmpYes X12.here hx rfl (pc0 := 146) (pc' := 153) rfl (hb hby at_146) rfl (feq hj146).2 (by decide) (by decide) ?_
          show Steps p.tables e below (T12.setTop (mkF m 153 #[.val (.long q0), .second, .val (.long q1), .second, .val (.int p2), .val (.int v1), .val (.long v4), .second, .val (.ref b5), .val (.ref b9), .val (.int (if v4 = q1 then (1 : Int32) else (0 : Int32)))] [])) _
          refine XS.iconst X12.here hx rfl (hb hby at_153) ?_
          rw [hw0] at kt
          exact kt
      obtain ⟨fs, hr, hrun, hended, hW, hsame⟩ := X12.leave (v := some (.int (nar .boolean (if (if q1 = v4 then (1 : Int32) else (0 : Int32)) = (if v4 = q1 then (1 : Int32) else (0 : Int32)) then (1 : Int32) else (0 : Int32))))) (fun h => by rw [Bd.returns] at h; cases h)
      refine ⟨_, _, ?_, hrun, hended, _, _, rfl, ?_, ⟨_, rfl⟩, hW, hsame.mono (by decide) (by decide)⟩
      · show Steps p.tables e below (T6.setTop (mkF m 39 #[.val (.long q0), .second, .val (.long q1), .second, .val (.int p2), .val (.int v1), .val (.long v4), .second, .val (.ref b5), .unset, .unset] [])) _
        refine st9 _ ?_
        show Steps p.tables e below (T9.setTop (mkF m 42 #[.val (.long q0), .second, .val (.long q1), .second, .val (.int p2), .val (.int v1), .val (.long v4), .second, .val (.ref b5), .unset, .unset] [(.ref b9)])) _
        refine XS.dup X9.here hx rfl (hb hby at_42) rfl rfl ?_
        show Steps p.tables e below (T9.setTop (mkF m 43 #[.val (.long q0), .second, .val (.long q1), .second, .val (.int p2), .val (.int v1), .val (.long v4), .second, .val (.ref b5), .unset, .unset] [(.ref b9), (.ref b9)])) _
        refine XS.lloadN X9.here hx rfl (hb hby at_43) rfl ?_
        show Steps p.tables e below (T9.setTop (mkF m 44 #[.val (.long q0), .second, .val (.long q1), .second, .val (.int p2), .val (.int v1), .val (.long v4), .second, .val (.ref b5), .unset, .unset] [(.long q1), (.ref b9), (.ref b9)])) _
        refine st10.trans ?_
        show Steps p.tables e below (T10.setTop (mkF m 47 #[.val (.long q0), .second, .val (.long q1), .second, .val (.int p2), .val (.int v1), .val (.long v4), .second, .val (.ref b5), .unset, .unset] [(.ref b9)])) _
        refine XS.astore X10.here hx rfl (hb hby at_47) rfl rfl (l' := #[.val (.long q0), .second, .val (.long q1), .second, .val (.int p2), .val (.int v1), .val (.long v4), .second, .val (.ref b5), .val (.ref b9), .unset]) rfl ?_
        show Steps p.tables e below (T10.setTop (mkF m 49 #[.val (.long q0), .second, .val (.long q1), .second, .val (.int p2), .val (.int v1), .val (.long v4), .second, .val (.ref b5), .val (.ref b9), .unset] [])) _
        refine XS.lload X10.here hx rfl (hb hby at_49) rfl ?_
        show Steps p.tables e below (T10.setTop (mkF m 51 #[.val (.long q0), .second, .val (.long q1), .second, .val (.int p2), .val (.int v1), .val (.long v4), .second, .val (.ref b5), .val (.ref b9), .unset] [(.long v4)])) _
        refine XS.lloadN X10.here hx rfl (hb hby at_51) rfl ?_
        show Steps p.tables e below (T10.setTop (mkF m 52 #[.val (.long q0), .second, .val (.long q1), .second, .val (.int p2), .val (.int v1), .val (.long v4), .second, .val (.ref b5), .val (.ref b9), .unset] [(.long q1), (.long v4)])) _
        refine XS.lcmp X10.here hx rfl (hb hby at_52) rfl ?_
        show Steps p.tables e below (T10.setTop (mkF m 53 #[.val (.long q0), .second, .val (.long q1), .second, .val (.int p2), .val (.int v1), .val (.long v4), .second, .val (.ref b5), .val (.ref b9), .unset] [(.int (lcmpW v4 q1))])) _
        refine J53_11 _ rfl _ ?_
        show Steps p.tables e below (T10.setTop (mkF m 61 #[.val (.long q0), .second, .val (.long q1), .second, .val (.int p2), .val (.int v1), .val (.long v4), .second, .val (.ref b5), .val (.ref b9), .unset] [(.int (if v4 = q1 then (1 : Int32) else (0 : Int32)))])) _
        refine XS.istore X10.here hx rfl (hb hby at_61) rfl (l' := #[.val (.long q0), .second, .val (.long q1), .second, .val (.int p2), .val (.int v1), .val (.long v4), .second, .val (.ref b5), .val (.ref b9), .val (.int (if v4 = q1 then (1 : Int32) else (0 : Int32)))]) rfl ?_
        show Steps p.tables e below (T10.setTop (mkF m 63 #[.val (.long q0), .second, .val (.long q1), .second, .val (.int p2), .val (.int v1), .val (.long v4), .second, .val (.ref b5), .val (.ref b9), .val (.int (if v4 = q1 then (1 : Int32) else (0 : Int32)))] [])) _
        refine XS.goto X10.here hx rfl (pc0 := 63) (pc' := 137) rfl (hb hby at_63) (by decide) (by decide) ?_
        show Steps p.tables e below (T10.setTop (mkF m 137 #[.val (.long q0), .second, .val (.long q1), .second, .val (.int p2), .val (.int v1), .val (.long v4), .second, .val (.ref b5), .val (.ref b9), .val (.int (if v4 = q1 then (1 : Int32) else (0 : Int32)))] [])) _
        refine XS.aload X10.here hx rfl (hb hby at_137) rfl rfl ?_
        show Steps p.tables e below (T10.setTop (mkF m 139 #[.val (.long q0), .second, .val (.long q1), .second, .val (.int p2), .val (.int v1), .val (.long v4), .second, .val (.ref b5), .val (.ref b9), .val (.int (if v4 = q1 then (1 : Int32) else (0 : Int32)))] [(.ref b5)])) _
        refine XS.aload X10.here hx rfl (hb hby at_139) rfl rfl ?_
        show Steps p.tables e below (T10.setTop (mkF m 141 #[.val (.long q0), .second, .val (.long q1), .second, .val (.int p2), .val (.int v1), .val (.long v4), .second, .val (.ref b5), .val (.ref b9), .val (.int (if v4 = q1 then (1 : Int32) else (0 : Int32)))] [(.ref b9), (.ref b5)])) _
        refine st12.trans ?_
        show Steps p.tables e below (T12.setTop (mkF m 144 #[.val (.long q0), .second, .val (.long q1), .second, .val (.int p2), .val (.int v1), .val (.long v4), .second, .val (.ref b5), .val (.ref b9), .val (.int (if v4 = q1 then (1 : Int32) else (0 : Int32)))] [(.int (if q1 = v4 then (1 : Int32) else (0 : Int32)))])) _
        refine XS.iload X12.here hx rfl (hb hby at_144) rfl ?_
        show Steps p.tables e below (T12.setTop (mkF m 146 #[.val (.long q0), .second, .val (.long q1), .second, .val (.int p2), .val (.int v1), .val (.long v4), .second, .val (.ref b5), .val (.ref b9), .val (.int (if v4 = q1 then (1 : Int32) else (0 : Int32)))] [(.int (if v4 = q1 then (1 : Int32) else (0 : Int32))), (.int (if q1 = v4 then (1 : Int32) else (0 : Int32)))])) _
        refine J146_13 _ rfl _ ?_
        show Steps p.tables e below (T12.setTop (mkF m 154 #[.val (.long q0), .second, .val (.long q1), .second, .val (.int p2), .val (.int v1), .val (.long v4), .second, .val (.ref b5), .val (.ref b9), .val (.int (if v4 = q1 then (1 : Int32) else (0 : Int32)))] [(.int (if (if q1 = v4 then (1 : Int32) else (0 : Int32)) = (if v4 = q1 then (1 : Int32) else (0 : Int32)) then (1 : Int32) else (0 : Int32)))])) _
        exact retN X12 hx (t := .boolean) Bd.returns (by simp) (hb hby at_154) hr
      · show Q0 Z q0 q1 p2 aC clC h0 n0 _ T12.heap _
        rw [e12]
        exact ⟨by simp [own_sym, nar, eq_comm], N12⟩
    · have K : ∀ target, Steps p.tables e below (T6.setTop (mkF m 66 #[.val (.long q0), .second, .val (.long q1), .second, .val (.int p2), .val (.int v1), .val (.long v4), .second, .val (.ref b5), .unset, .unset] [])) target → Steps p.tables e below (T6.setTop (mkF m 36 #[.val (.long q0), .second, .val (.long q1), .second, .val (.int p2), .val (.int v1), .val (.long v4), .second, .val (.ref b5), .unset, .unset] [(.int v1)])) target := by
        intro target kt
        refine XS.ifYes X6.here hx rfl (pc0 := 36) (pc' := 66) rfl (hb hby at_36) rfl ((if0 _ _).trans (feq hc36_8).2) (by decide) (by decide) ?_
        exact kt
      refine Done.of ?_ K
      have K14 : ∀ target, Steps p.tables e below (T6.setTop (mkF m 69 #[.val (.long q0), .second, .val (.long q1), .second, .val (.int p2), .val (.int v1), .val (.long v4), .second, .val (.ref b5), .unset, .unset] [(.int (1 : Int32)), (.int v1)])) target → Steps p.tables e below (T6.setTop (mkF m 66 #[.val (.long q0), .second, .val (.long q1), .second, .val (.int p2), .val (.int v1), .val (.long v4), .second, .val (.ref b5), .unset, .unset] [])) target := by
        intro target kt
        show Steps p.tables e below (T6.setTop (mkF m 66 #[.val (.long q0), .second, .val (.long q1), .second, .val (.int p2), .val (.int v1), .val (.long v4), .second, .val (.ref b5), .unset, .unset] [])) _
        refine XS.iload X6.here hx rfl (hb hby at_66) rfl ?_
        show Steps p.tables e below (T6.setTop (mkF m 68 #[.val (.long q0), .second, .val (.long q1), .second, .val (.int p2), .val (.int v1), .val (.long v4), .second, .val (.ref b5), .unset, .unset] [(.int v1)])) _
        refine XS.iconst X6.here hx rfl (hb hby at_68) ?_
        exact kt
      refine Done.of ?_ K14
      by_cases hc69_15 : v1 = (1 : Int32)
      · have K : ∀ target, Steps p.tables e below (T6.setTop (mkF m 72 #[.val (.long q0), .second, .val (.long q1), .second, .val (.int p2), .val (.int v1), .val (.long v4), .second, .val (.ref b5), .unset, .unset] [])) target → Steps p.tables e below (T6.setTop (mkF m 69 #[.val (.long q0), .second, .val (.long q1), .second, .val (.int p2), .val (.int v1), .val (.long v4), .second, .val (.ref b5), .unset, .unset] [(.int (1 : Int32)), (.int v1)])) target := by
          intro target kt
          refine XS.icmpNo X6.here hx rfl (hb hby at_69) rfl (teq hc69_15).2 ?_
          exact kt
        refine Done.of ?_ K
        obtain ⟨T16, h16, X16, e16, E16, A16, D16, -, st16⟩ := newO X6 hx hZ hown (hw _ (List.mem_of_getElem? (i := 0) rfl)) (hw _ (List.mem_of_getElem? (i := 1) rfl)) (hw _ (List.mem_of_getElem? (i := 2) rfl)) rfl (g := (mkF m 72 #[.val (.long q0), .second, .val (.long q1), .second, .val (.int p2), .val (.int v1), .val (.long v4), .second, .val (.ref b5), .unset, .unset] [])) rfl (hb hby at_72) (by decide) (by decide)
        obtain ⟨b16, g16⟩ : ∃ z, z = T6.heap.size := ⟨_, rfl⟩
        rw [← g16] at A16 D16 st16
        have gnb16 : n0 ≤ b16 := Nat.le_trans Z6 (Nat.le_of_eq g16.symm)
        have Z16 : n0 ≤ h16.size := Nat.le_trans Z6 E16.1
        have ne_16_1 : b5 ≠ b16 := Nat.ne_of_lt (Nat.lt_of_lt_of_le EI6.lt (Nat.le_of_eq g16.symm))
        have F16_value : Fld Z h16 b16 "com/example/firepick/firepick/IntegerItem" "value" "J" (.long (0 : Int64)) := D16 (Or.inr (hw _ (List.mem_of_getElem? (i := 15) rfl))) (ty := .long) (by decide)
        obtain ⟨_, _, ⟨T17, L17, k17, n17⟩, -, X17, ⟨Lc17, hQ17, l17, y17, z17⟩, st17⟩ := X16.specialBack hx (y := (⟨"com/example/firepick/firepick/IntegerItem", "<init>", "(J)V"⟩ : MethodName)) rfl hown (mvT hZ (hw _ (List.mem_of_getElem? (i := 3) rfl))) (mvT hZ (hw _ (List.mem_of_getElem? (i := 4) rfl))) (mvT hZ (hw _ (List.mem_of_getElem? (i := 5) rfl))) (by decide) (backOf (W := 1) (rm1 l Z a0 hw [] b16 v4 h16 n0 Z16 A16 gnb16 F16_value) hZ (hw _ (List.mem_of_getElem? (i := 5) rfl)) (hw _ (List.mem_of_getElem? (i := 2) rfl)) (by decide) (by decide)) (g := (mkF m 78 #[.val (.long q0), .second, .val (.long q1), .second, .val (.int p2), .val (.int v1), .val (.long v4), .second, .val (.ref b5), .unset, .unset] [(.long v4), (.ref b16), (.ref b16)])) rfl (by rw [hml]; rfl) (Steps.refl _) (a := b16) (argsL := [(.long v4)]) (rest := [(.ref b16)]) (lenOf pd_1 rfl) rfl (by show 2 * 0 + _ ≤ _; exact Nat.le_of_eq rfl) (hb hby at_78) (fun _ _ => ⟨rfl, e16, (by decide : 2 + 0 ≤ _), (by decide : 2 + 0 ≤ _)⟩)
        dsimp only [Pt.U, Pt.locs, Pt.cells, Pt.slots] at X17 l17 y17 z17 st17 hQ17
        subst l17 y17 z17
        obtain ⟨rfl, N17q, K17q, EI17, FI17⟩ := hQ17
        have N17 := Fr.app N6 N17q
        have Z17 : n0 ≤ T17.heap.size := Nat.le_trans Z16 K17q.1
        obtain ⟨cq18, kq18, q18a, q18b, q18c⟩ := isOf hZ rfl ((EI6.ext E16).keep K17q)
        obtain ⟨_, _, ⟨T18, L18, k18, n18⟩, -, X18, ⟨Lc18, hQ18, l18, y18, z18⟩, st18⟩ := X17.virtualBack hx (y := (⟨"com/example/firepick/firepick/IntegerItem", "equals", "(Ljava/lang/Object;)Z"⟩ : MethodName)) (z := (⟨"com/example/firepick/firepick/IntegerItem", "equals", "(Ljava/lang/Object;)Z"⟩ : MethodName)) hown (mvT hZ (hw _ (List.mem_of_getElem? (i := 16) rfl))) (mvT hZ (hw _ (List.mem_of_getElem? (i := 17) rfl))) (notFace_of_selects (args := #[]) (mvT hZ (hw _ (List.mem_of_getElem? (i := 19) rfl)))) (mvT hZ (hw _ (List.mem_of_getElem? (i := 19) rfl))) (mvT hZ (hw _ (List.mem_of_getElem? (i := 18) rfl))) (by decide) (backOf (W := 0) (rm4i l Z a0 hw [] b5 b16 v4 v4 T17.heap n0 Z17 ((FI6.ext E16).keep K17q (fun hq => ne_16_1 (List.mem_singleton.mp hq))) EI17 FI17) hZ (hw _ (List.mem_of_getElem? (i := 20) rfl)) (hw _ (List.mem_of_getElem? (i := 2) rfl)) (by decide) (by decide)) q18a q18c (g := (mkF m 141 #[.val (.long q0), .second, .val (.long q1), .second, .val (.int p2), .val (.int v1), .val (.long v4), .second, .val (.ref b5), .val (.ref b16), .val (.int (1 : Int32))] [(.ref b16), (.ref b5)])) rfl (by rw [hml]; rfl) (Steps.refl _) (argsL := [(.ref b16)]) (rest := []) (lenOf pd_2 rfl) rfl (by show 2 * 0 + _ ≤ _; exact Nat.le_of_eq rfl) (hb hby at_141) (fun _ _ => ⟨rfl, rfl, (by decide : 2 + 0 ≤ _), (by decide : 2 + 0 ≤ _)⟩)
        dsimp only [Pt.U, Pt.locs, Pt.cells, Pt.slots] at X18 l18 y18 z18 st18 hQ18
        subst l18 y18 z18
        obtain ⟨rfl, N18q, e18⟩ := hQ18
        have N18 := Fr.app N17 N18q
        have J146_19 : ∀ wj : Int32, wj = (if (if v4 = v4 then (1 : Int32) else (0 : Int32)) = (1 : Int32) then (1 : Int32) else (0 : Int32)) → ∀ target, Steps p.tables e below (T18.setTop (mkF m 154 #[.val (.long q0), .second, .val (.long q1), .second, .val (.int p2), .val (.int v1), .val (.long v4), .second, .val (.ref b5), .val (.ref b16), .val (.int (1 : Int32))] [(.int wj)])) target → Steps p.tables e below (T18.setTop (mkF m 146 #[.val (.long q0), .second, .val (.long q1), .second, .val (.int p2), .val (.int v1), .val (.long v4), .second, .val (.ref b5), .val (.ref b16), .val (.int (1 : Int32))] [(.int (1 : Int32)), (.int (if v4 = v4 then (1 : Int32) else (0 : Int32)))])) target := by
          intro wj hw0 target kt
          by_cases hj146 : (if v4 = v4 then (1 : Int32) else (0 : Int32)) = (1 : Int32)
          · rw [if_pos hj146] at hw0
            show Steps p.tables e below (T18.setTop (mkF m 146 #[.val (.long q0), .second, .val (.long q1), .second, .val (.int p2), .val (.int v1), .val (.long v4), .second, .val (.ref b5), .val (.ref b16), .val (.int (1 : Int32))] [(.int (1 : Int32)), (.int (if v4 = v4 then (1 : Int32) else (0 : Int32)))])) _
            refine XS.icmpNo X18.here hx rfl (hb hby at_146) rfl (teq hj146).2 ?_
            show Steps p.tables e below (T18.setTop (mkF m 149 #[.val (.long q0), .second, .val (.long q1), .second, .val (.int p2), .val (.int v1), .val (.long v4), .second, .val (.ref b5), .val (.ref b16), .val (.int (1 : Int32))] [])) _
            refine XS.iconst X18.here hx rfl (hb hby at_149) ?_
            show Steps p.tables e below (T18.setTop (mkF m 150 #[.val (.long q0), .second, .val (.long q1), .second, .val (.int p2), .val (.int v1), .val (.long v4), .second, .val (.ref b5), .val (.ref b16), .val (.int (1 : Int32))] [(.int (1 : Int32))])) _
            refine XS.goto X18.here hx rfl (pc0 := 150) (pc' := 154) rfl (hb hby at_150) (by decide) (by decide) ?_
            rw [hw0] at kt
            exact kt
          · rw [if_neg hj146] at hw0
            show Steps p.tables e below (T18.setTop (mkF m 146 #[.val (.long q0), .second, .val (.long q1), .second, .val (.int p2), .val (.int v1), .val (.long v4), .second, .val (.ref b5), .val (.ref b16), .val (.int (1 : Int32))] [(.int (1 : Int32)), (.int (if v4 = v4 then (1 : Int32) else (0 : Int32)))])) _
            refine XS.icmpYes X18.here hx rfl (pc0 := 146) (pc' := 153) rfl (hb hby at_146) rfl (feq hj146).2 (by decide) (by decide) ?_
            show Steps p.tables e below (T18.setTop (mkF m 153 #[.val (.long q0), .second, .val (.long q1), .second, .val (.int p2), .val (.int v1), .val (.long v4), .second, .val (.ref b5), .val (.ref b16), .val (.int (1 : Int32))] [])) _
            refine XS.iconst X18.here hx rfl (hb hby at_153) ?_
            rw [hw0] at kt
            exact kt
        obtain ⟨fs, hr, hrun, hended, hW, hsame⟩ := X18.leave (v := some (.int (nar .boolean (if (if v4 = v4 then (1 : Int32) else (0 : Int32)) = (1 : Int32) then (1 : Int32) else (0 : Int32))))) (fun h => by rw [Bd.returns] at h; cases h)
        refine ⟨_, _, ?_, hrun, hended, _, _, rfl, ?_, ⟨_, rfl⟩, hW, hsame.mono (by decide) (by decide)⟩
        · show Steps p.tables e below (T6.setTop (mkF m 72 #[.val (.long q0), .second, .val (.long q1), .second, .val (.int p2), .val (.int v1), .val (.long v4), .second, .val (.ref b5), .unset, .unset] [])) _
          refine st16 _ ?_
          show Steps p.tables e below (T16.setTop (mkF m 75 #[.val (.long q0), .second, .val (.long q1), .second, .val (.int p2), .val (.int v1), .val (.long v4), .second, .val (.ref b5), .unset, .unset] [(.ref b16)])) _
          refine XS.dup X16.here hx rfl (hb hby at_75) rfl rfl ?_
          show Steps p.tables e below (T16.setTop (mkF m 76 #[.val (.long q0), .second, .val (.long q1), .second, .val (.int p2), .val (.int v1), .val (.long v4), .second, .val (.ref b5), .unset, .unset] [(.ref b16), (.ref b16)])) _
          refine XS.lload X16.here hx rfl (hb hby at_76) rfl ?_
          show Steps p.tables e below (T16.setTop (mkF m 78 #[.val (.long q0), .second, .val (.long q1), .second, .val (.int p2), .val (.int v1), .val (.long v4), .second, .val (.ref b5), .unset, .unset] [(.long v4), (.ref b16), (.ref b16)])) _
          refine st17.trans ?_
          show Steps p.tables e below (T17.setTop (mkF m 81 #[.val (.long q0), .second, .val (.long q1), .second, .val (.int p2), .val (.int v1), .val (.long v4), .second, .val (.ref b5), .unset, .unset] [(.ref b16)])) _
          refine XS.astore X17.here hx rfl (hb hby at_81) rfl rfl (l' := #[.val (.long q0), .second, .val (.long q1), .second, .val (.int p2), .val (.int v1), .val (.long v4), .second, .val (.ref b5), .val (.ref b16), .unset]) rfl ?_
          show Steps p.tables e below (T17.setTop (mkF m 83 #[.val (.long q0), .second, .val (.long q1), .second, .val (.int p2), .val (.int v1), .val (.long v4), .second, .val (.ref b5), .val (.ref b16), .unset] [])) _
          refine XS.iconst X17.here hx rfl (hb hby at_83) ?_
          show Steps p.tables e below (T17.setTop (mkF m 84 #[.val (.long q0), .second, .val (.long q1), .second, .val (.int p2), .val (.int v1), .val (.long v4), .second, .val (.ref b5), .val (.ref b16), .unset] [(.int (1 : Int32))])) _
          refine XS.istore X17.here hx rfl (hb hby at_84) rfl (l' := #[.val (.long q0), .second, .val (.long q1), .second, .val (.int p2), .val (.int v1), .val (.long v4), .second, .val (.ref b5), .val (.ref b16), .val (.int (1 : Int32))]) rfl ?_
          show Steps p.tables e below (T17.setTop (mkF m 86 #[.val (.long q0), .second, .val (.long q1), .second, .val (.int p2), .val (.int v1), .val (.long v4), .second, .val (.ref b5), .val (.ref b16), .val (.int (1 : Int32))] [])) _
          refine XS.goto X17.here hx rfl (pc0 := 86) (pc' := 137) rfl (hb hby at_86) (by decide) (by decide) ?_
          show Steps p.tables e below (T17.setTop (mkF m 137 #[.val (.long q0), .second, .val (.long q1), .second, .val (.int p2), .val (.int v1), .val (.long v4), .second, .val (.ref b5), .val (.ref b16), .val (.int (1 : Int32))] [])) _
          refine XS.aload X17.here hx rfl (hb hby at_137) rfl rfl ?_
          show Steps p.tables e below (T17.setTop (mkF m 139 #[.val (.long q0), .second, .val (.long q1), .second, .val (.int p2), .val (.int v1), .val (.long v4), .second, .val (.ref b5), .val (.ref b16), .val (.int (1 : Int32))] [(.ref b5)])) _
          refine XS.aload X17.here hx rfl (hb hby at_139) rfl rfl ?_
          show Steps p.tables e below (T17.setTop (mkF m 141 #[.val (.long q0), .second, .val (.long q1), .second, .val (.int p2), .val (.int v1), .val (.long v4), .second, .val (.ref b5), .val (.ref b16), .val (.int (1 : Int32))] [(.ref b16), (.ref b5)])) _
          refine st18.trans ?_
          show Steps p.tables e below (T18.setTop (mkF m 144 #[.val (.long q0), .second, .val (.long q1), .second, .val (.int p2), .val (.int v1), .val (.long v4), .second, .val (.ref b5), .val (.ref b16), .val (.int (1 : Int32))] [(.int (if v4 = v4 then (1 : Int32) else (0 : Int32)))])) _
          refine XS.iload X18.here hx rfl (hb hby at_144) rfl ?_
          show Steps p.tables e below (T18.setTop (mkF m 146 #[.val (.long q0), .second, .val (.long q1), .second, .val (.int p2), .val (.int v1), .val (.long v4), .second, .val (.ref b5), .val (.ref b16), .val (.int (1 : Int32))] [(.int (1 : Int32)), (.int (if v4 = v4 then (1 : Int32) else (0 : Int32)))])) _
          refine J146_19 _ rfl _ ?_
          show Steps p.tables e below (T18.setTop (mkF m 154 #[.val (.long q0), .second, .val (.long q1), .second, .val (.int p2), .val (.int v1), .val (.long v4), .second, .val (.ref b5), .val (.ref b16), .val (.int (1 : Int32))] [(.int (if (if v4 = v4 then (1 : Int32) else (0 : Int32)) = (1 : Int32) then (1 : Int32) else (0 : Int32)))])) _
          exact retN X18 hx (t := .boolean) Bd.returns (by simp) (hb hby at_154) hr
        · show Q0 Z q0 q1 p2 aC clC h0 n0 _ T18.heap _
          rw [e18]
          exact ⟨by simp [own_sym, nar, eq_comm], N18⟩
      · have K : ∀ target, Steps p.tables e below (T6.setTop (mkF m 89 #[.val (.long q0), .second, .val (.long q1), .second, .val (.int p2), .val (.int v1), .val (.long v4), .second, .val (.ref b5), .unset, .unset] [])) target → Steps p.tables e below (T6.setTop (mkF m 69 #[.val (.long q0), .second, .val (.long q1), .second, .val (.int p2), .val (.int v1), .val (.long v4), .second, .val (.ref b5), .unset, .unset] [(.int (1 : Int32)), (.int v1)])) target := by
          intro target kt
          refine XS.icmpYes X6.here hx rfl (pc0 := 69) (pc' := 89) rfl (hb hby at_69) rfl (feq hc69_15).2 (by decide) (by decide) ?_
          exact kt
        refine Done.of ?_ K
        have K20 : ∀ target, Steps p.tables e below (T6.setTop (mkF m 92 #[.val (.long q0), .second, .val (.long q1), .second, .val (.int p2), .val (.int v1), .val (.long v4), .second, .val (.ref b5), .unset, .unset] [(.int (2 : Int32)), (.int v1)])) target → Steps p.tables e below (T6.setTop (mkF m 89 #[.val (.long q0), .second, .val (.long q1), .second, .val (.int p2), .val (.int v1), .val (.long v4), .second, .val (.ref b5), .unset, .unset] [])) target := by
          intro target kt
          show Steps p.tables e below (T6.setTop (mkF m 89 #[.val (.long q0), .second, .val (.long q1), .second, .val (.int p2), .val (.int v1), .val (.long v4), .second, .val (.ref b5), .unset, .unset] [])) _
          refine XS.iload X6.here hx rfl (hb hby at_89) rfl ?_
          show Steps p.tables e below (T6.setTop (mkF m 91 #[.val (.long q0), .second, .val (.long q1), .second, .val (.int p2), .val (.int v1), .val (.long v4), .second, .val (.ref b5), .unset, .unset] [(.int v1)])) _
          refine XS.iconst X6.here hx rfl (hb hby at_91) ?_
          exact kt
        refine Done.of ?_ K20
        by_cases hc92_21 : v1 = (2 : Int32)
        · have K : ∀ target, Steps p.tables e below (T6.setTop (mkF m 95 #[.val (.long q0), .second, .val (.long q1), .second, .val (.int p2), .val (.int v1), .val (.long v4), .second, .val (.ref b5), .unset, .unset] [])) target → Steps p.tables e below (T6.setTop (mkF m 92 #[.val (.long q0), .second, .val (.long q1), .second, .val (.int p2), .val (.int v1), .val (.long v4), .second, .val (.ref b5), .unset, .unset] [(.int (2 : Int32)), (.int v1)])) target := by
            intro target kt
            refine XS.icmpNo X6.here hx rfl (hb hby at_92) rfl (teq hc92_21).2 ?_
            exact kt
          refine Done.of ?_ K
          obtain ⟨T22, h22, X22, e22, E22, A22, D22, -, st22⟩ := newO X6 hx hZ hown (hw _ (List.mem_of_getElem? (i := 47) rfl)) (hw _ (List.mem_of_getElem? (i := 48) rfl)) (hw _ (List.mem_of_getElem? (i := 49) rfl)) rfl (g := (mkF m 95 #[.val (.long q0), .second, .val (.long q1), .second, .val (.int p2), .val (.int v1), .val (.long v4), .second, .val (.ref b5), .unset, .unset] [])) rfl (hb hby at_95) (by decide) (by decide)
          obtain ⟨b22, g22⟩ : ∃ z, z = T6.heap.size := ⟨_, rfl⟩
          rw [← g22] at A22 D22 st22
          have gnb22 : n0 ≤ b22 := Nat.le_trans Z6 (Nat.le_of_eq g22.symm)
          have Z22 : n0 ≤ h22.size := Nat.le_trans Z6 E22.1
          have ne_22_1 : b5 ≠ b22 := Nat.ne_of_lt (Nat.lt_of_lt_of_le EI6.lt (Nat.le_of_eq g22.symm))
          have F22_value : Fld Z h22 b22 "com/example/firepick/firepick/DecimalItem" "value" "D" (.double (0 : UInt64)) := D22 (Or.inr (hw _ (List.mem_of_getElem? (i := 55) rfl))) (ty := .double) (by decide)
          obtain ⟨_, _, ⟨T23, L23, k23, n23⟩, -, X23, ⟨Lc23, hQ23, l23, y23, z23⟩, st23⟩ := X22.specialBack hx (y := (⟨"com/example/firepick/firepick/DecimalItem", "<init>", "(D)V"⟩ : MethodName)) rfl hown (mvT hZ (hw _ (List.mem_of_getElem? (i := 50) rfl))) (mvT hZ (hw _ (List.mem_of_getElem? (i := 51) rfl))) (mvT hZ (hw _ (List.mem_of_getElem? (i := 52) rfl))) (by decide) (backOf (W := 1) (rm8 l Z a0 hw [] b22 (FP.i2d (v4.toInt32)) h22 n0 Z22 A22 gnb22 F22_value) hZ (hw _ (List.mem_of_getElem? (i := 52) rfl)) (hw _ (List.mem_of_getElem? (i := 49) rfl)) (by decide) (by decide)) (g := (mkF m 103 #[.val (.long q0), .second, .val (.long q1), .second, .val (.int p2), .val (.int v1), .val (.long v4), .second, .val (.ref b5), .unset, .unset] [(.double (FP.i2d (v4.toInt32))), (.ref b22), (.ref b22)])) rfl (by rw [hml]; rfl) (Steps.refl _) (a := b22) (argsL := [(.double (FP.i2d (v4.toInt32)))]) (rest := [(.ref b22)]) (lenOf pd_3 rfl) rfl (by show 2 * 0 + _ ≤ _; exact Nat.le_of_eq rfl) (hb hby at_103) (fun _ _ => ⟨rfl, e22, (by decide : 2 + 0 ≤ _), (by decide : 2 + 0 ≤ _)⟩)
          dsimp only [Pt.U, Pt.locs, Pt.cells, Pt.slots] at X23 l23 y23 z23 st23 hQ23
          subst l23 y23 z23
          obtain ⟨rfl, N23q, K23q, EI23, FI23⟩ := hQ23
          have N23 := Fr.app N6 N23q
          have Z23 : n0 ≤ T23.heap.size := Nat.le_trans Z22 K23q.1
          obtain ⟨cq24, kq24, q24a, q24b, q24c⟩ := isOf hZ rfl ((EI6.ext E22).keep K23q)
          obtain ⟨_, _, ⟨T24, L24, k24, n24⟩, -, X24, ⟨Lc24, hQ24, l24, y24, z24⟩, st24⟩ := X23.virtualBack hx (y := (⟨"com/example/firepick/firepick/IntegerItem", "equals", "(Ljava/lang/Object;)Z"⟩ : MethodName)) (z := (⟨"com/example/firepick/firepick/IntegerItem", "equals", "(Ljava/lang/Object;)Z"⟩ : MethodName)) hown (mvT hZ (hw _ (List.mem_of_getElem? (i := 16) rfl))) (mvT hZ (hw _ (List.mem_of_getElem? (i := 17) rfl))) (notFace_of_selects (args := #[]) (mvT hZ (hw _ (List.mem_of_getElem? (i := 19) rfl)))) (mvT hZ (hw _ (List.mem_of_getElem? (i := 19) rfl))) (mvT hZ (hw _ (List.mem_of_getElem? (i := 18) rfl))) (by decide) (backOf (W := 0) (rm4d l Z a0 hw [] b5 b22 v4 T23.heap n0 Z23 ((FI6.ext E22).keep K23q (fun hq => ne_22_1 (List.mem_singleton.mp hq))) EI23) hZ (hw _ (List.mem_of_getElem? (i := 20) rfl)) (hw _ (List.mem_of_getElem? (i := 2) rfl)) (by decide) (by decide)) q24a q24c (g := (mkF m 141 #[.val (.long q0), .second, .val (.long q1), .second, .val (.int p2), .val (.int v1), .val (.long v4), .second, .val (.ref b5), .val (.ref b22), .val (.int (0 : Int32))] [(.ref b22), (.ref b5)])) rfl (by rw [hml]; rfl) (Steps.refl _) (argsL := [(.ref b22)]) (rest := []) (lenOf pd_2 rfl) rfl (by show 2 * 0 + _ ≤ _; exact Nat.le_of_eq rfl) (hb hby at_141) (fun _ _ => ⟨rfl, rfl, (by decide : 2 + 0 ≤ _), (by decide : 2 + 0 ≤ _)⟩)
          dsimp only [Pt.U, Pt.locs, Pt.cells, Pt.slots] at X24 l24 y24 z24 st24 hQ24
          subst l24 y24 z24
          obtain ⟨rfl, N24q, e24⟩ := hQ24
          have N24 := Fr.app N23 N24q
          obtain ⟨fs, hr, hrun, hended, hW, hsame⟩ := X24.leave (v := some (.int (1 : Int32))) (fun h => by rw [Bd.returns] at h; cases h)
          refine ⟨_, _, ?_, hrun, hended, _, _, rfl, ?_, ⟨_, rfl⟩, hW, hsame.mono (by decide) (by decide)⟩
          · show Steps p.tables e below (T6.setTop (mkF m 95 #[.val (.long q0), .second, .val (.long q1), .second, .val (.int p2), .val (.int v1), .val (.long v4), .second, .val (.ref b5), .unset, .unset] [])) _
            refine st22 _ ?_
            show Steps p.tables e below (T22.setTop (mkF m 98 #[.val (.long q0), .second, .val (.long q1), .second, .val (.int p2), .val (.int v1), .val (.long v4), .second, .val (.ref b5), .unset, .unset] [(.ref b22)])) _
            refine XS.dup X22.here hx rfl (hb hby at_98) rfl rfl ?_
            show Steps p.tables e below (T22.setTop (mkF m 99 #[.val (.long q0), .second, .val (.long q1), .second, .val (.int p2), .val (.int v1), .val (.long v4), .second, .val (.ref b5), .unset, .unset] [(.ref b22), (.ref b22)])) _
            refine XS.lload X22.here hx rfl (hb hby at_99) rfl ?_
            show Steps p.tables e below (T22.setTop (mkF m 101 #[.val (.long q0), .second, .val (.long q1), .second, .val (.int p2), .val (.int v1), .val (.long v4), .second, .val (.ref b5), .unset, .unset] [(.long v4), (.ref b22), (.ref b22)])) _
            refine XS.l2i X22.here hx rfl (hb hby at_101) rfl ?_
            show Steps p.tables e below (T22.setTop (mkF m 102 #[.val (.long q0), .second, .val (.long q1), .second, .val (.int p2), .val (.int v1), .val (.long v4), .second, .val (.ref b5), .unset, .unset] [(.int (v4.toInt32)), (.ref b22), (.ref b22)])) _
            refine XS.i2dS X22.here hx rfl (hb hby at_102) rfl rfl ?_
            show Steps p.tables e below (T22.setTop (mkF m 103 #[.val (.long q0), .second, .val (.long q1), .second, .val (.int p2), .val (.int v1), .val (.long v4), .second, .val (.ref b5), .unset, .unset] [(.double (FP.i2d (v4.toInt32))), (.ref b22), (.ref b22)])) _
            refine st23.trans ?_
            show Steps p.tables e below (T23.setTop (mkF m 106 #[.val (.long q0), .second, .val (.long q1), .second, .val (.int p2), .val (.int v1), .val (.long v4), .second, .val (.ref b5), .unset, .unset] [(.ref b22)])) _
            refine XS.astore X23.here hx rfl (hb hby at_106) rfl rfl (l' := #[.val (.long q0), .second, .val (.long q1), .second, .val (.int p2), .val (.int v1), .val (.long v4), .second, .val (.ref b5), .val (.ref b22), .unset]) rfl ?_
            show Steps p.tables e below (T23.setTop (mkF m 108 #[.val (.long q0), .second, .val (.long q1), .second, .val (.int p2), .val (.int v1), .val (.long v4), .second, .val (.ref b5), .val (.ref b22), .unset] [])) _
            refine XS.iconst X23.here hx rfl (hb hby at_108) ?_
            show Steps p.tables e below (T23.setTop (mkF m 109 #[.val (.long q0), .second, .val (.long q1), .second, .val (.int p2), .val (.int v1), .val (.long v4), .second, .val (.ref b5), .val (.ref b22), .unset] [(.int (0 : Int32))])) _
            refine XS.istore X23.here hx rfl (hb hby at_109) rfl (l' := #[.val (.long q0), .second, .val (.long q1), .second, .val (.int p2), .val (.int v1), .val (.long v4), .second, .val (.ref b5), .val (.ref b22), .val (.int (0 : Int32))]) rfl ?_
            show Steps p.tables e below (T23.setTop (mkF m 111 #[.val (.long q0), .second, .val (.long q1), .second, .val (.int p2), .val (.int v1), .val (.long v4), .second, .val (.ref b5), .val (.ref b22), .val (.int (0 : Int32))] [])) _
            refine XS.goto X23.here hx rfl (pc0 := 111) (pc' := 137) rfl (hb hby at_111) (by decide) (by decide) ?_
            show Steps p.tables e below (T23.setTop (mkF m 137 #[.val (.long q0), .second, .val (.long q1), .second, .val (.int p2), .val (.int v1), .val (.long v4), .second, .val (.ref b5), .val (.ref b22), .val (.int (0 : Int32))] [])) _
            refine XS.aload X23.here hx rfl (hb hby at_137) rfl rfl ?_
            show Steps p.tables e below (T23.setTop (mkF m 139 #[.val (.long q0), .second, .val (.long q1), .second, .val (.int p2), .val (.int v1), .val (.long v4), .second, .val (.ref b5), .val (.ref b22), .val (.int (0 : Int32))] [(.ref b5)])) _
            refine XS.aload X23.here hx rfl (hb hby at_139) rfl rfl ?_
            show Steps p.tables e below (T23.setTop (mkF m 141 #[.val (.long q0), .second, .val (.long q1), .second, .val (.int p2), .val (.int v1), .val (.long v4), .second, .val (.ref b5), .val (.ref b22), .val (.int (0 : Int32))] [(.ref b22), (.ref b5)])) _
            refine st24.trans ?_
            show Steps p.tables e below (T24.setTop (mkF m 144 #[.val (.long q0), .second, .val (.long q1), .second, .val (.int p2), .val (.int v1), .val (.long v4), .second, .val (.ref b5), .val (.ref b22), .val (.int (0 : Int32))] [(.int (0 : Int32))])) _
            refine XS.iload X24.here hx rfl (hb hby at_144) rfl ?_
            show Steps p.tables e below (T24.setTop (mkF m 146 #[.val (.long q0), .second, .val (.long q1), .second, .val (.int p2), .val (.int v1), .val (.long v4), .second, .val (.ref b5), .val (.ref b22), .val (.int (0 : Int32))] [(.int (0 : Int32)), (.int (0 : Int32))])) _
            refine XS.icmpNo X24.here hx rfl (hb hby at_146) rfl (teq (rfl : (0 : Int32) = (0 : Int32))).2 ?_
            show Steps p.tables e below (T24.setTop (mkF m 149 #[.val (.long q0), .second, .val (.long q1), .second, .val (.int p2), .val (.int v1), .val (.long v4), .second, .val (.ref b5), .val (.ref b22), .val (.int (0 : Int32))] [])) _
            refine XS.iconst X24.here hx rfl (hb hby at_149) ?_
            show Steps p.tables e below (T24.setTop (mkF m 150 #[.val (.long q0), .second, .val (.long q1), .second, .val (.int p2), .val (.int v1), .val (.long v4), .second, .val (.ref b5), .val (.ref b22), .val (.int (0 : Int32))] [(.int (1 : Int32))])) _
            refine XS.goto X24.here hx rfl (pc0 := 150) (pc' := 154) rfl (hb hby at_150) (by decide) (by decide) ?_
            show Steps p.tables e below (T24.setTop (mkF m 154 #[.val (.long q0), .second, .val (.long q1), .second, .val (.int p2), .val (.int v1), .val (.long v4), .second, .val (.ref b5), .val (.ref b22), .val (.int (0 : Int32))] [(.int (1 : Int32))])) _
            exact retN X24 hx (t := .boolean) Bd.returns (by simp) (hb hby at_154) hr
          · show Q0 Z q0 q1 p2 aC clC h0 n0 _ T24.heap _
            rw [e24]
            exact ⟨rfl, N24⟩
        · have K : ∀ target, Steps p.tables e below (T6.setTop (mkF m 114 #[.val (.long q0), .second, .val (.long q1), .second, .val (.int p2), .val (.int v1), .val (.long v4), .second, .val (.ref b5), .unset, .unset] [])) target → Steps p.tables e below (T6.setTop (mkF m 92 #[.val (.long q0), .second, .val (.long q1), .second, .val (.int p2), .val (.int v1), .val (.long v4), .second, .val (.ref b5), .unset, .unset] [(.int (2 : Int32)), (.int v1)])) target := by
            intro target kt
            refine XS.icmpYes X6.here hx rfl (pc0 := 92) (pc' := 114) rfl (hb hby at_92) rfl (feq hc92_21).2 (by decide) (by decide) ?_
            exact kt
          refine Done.of ?_ K
          have K25 : ∀ target, Steps p.tables e below (T6.setTop (mkF m 118 #[.val (.long q0), .second, .val (.long q1), .second, .val (.int p2), .val (.int v1), .val (.long v4), .second, .val (.ref b5), .unset, .unset] [(.int (p2 &&& (4 : Int32)))])) target → Steps p.tables e below (T6.setTop (mkF m 114 #[.val (.long q0), .second, .val (.long q1), .second, .val (.int p2), .val (.int v1), .val (.long v4), .second, .val (.ref b5), .unset, .unset] [])) target := by
            intro target kt
            show Steps p.tables e below (T6.setTop (mkF m 114 #[.val (.long q0), .second, .val (.long q1), .second, .val (.int p2), .val (.int v1), .val (.long v4), .second, .val (.ref b5), .unset, .unset] [])) _
            refine XS.iload X6.here hx rfl (hb hby at_114) rfl ?_
            show Steps p.tables e below (T6.setTop (mkF m 116 #[.val (.long q0), .second, .val (.long q1), .second, .val (.int p2), .val (.int v1), .val (.long v4), .second, .val (.ref b5), .unset, .unset] [(.int p2)])) _
            refine XS.iconst X6.here hx rfl (hb hby at_116) ?_
            show Steps p.tables e below (T6.setTop (mkF m 117 #[.val (.long q0), .second, .val (.long q1), .second, .val (.int p2), .val (.int v1), .val (.long v4), .second, .val (.ref b5), .unset, .unset] [(.int (4 : Int32)), (.int p2)])) _
            refine XS.iand X6.here hx rfl (hb hby at_117) rfl ?_
            exact kt
          refine Done.of ?_ K25
          by_cases hc118_26 : (p2 &&& (4 : Int32)) = (0 : Int32)
          · have K : ∀ target, Steps p.tables e below (T6.setTop (mkF m 127 #[.val (.long q0), .second, .val (.long q1), .second, .val (.int p2), .val (.int v1), .val (.long v4), .second, .val (.ref b5), .unset, .unset] [])) target → Steps p.tables e below (T6.setTop (mkF m 118 #[.val (.long q0), .second, .val (.long q1), .second, .val (.int p2), .val (.int v1), .val (.long v4), .second, .val (.ref b5), .unset, .unset] [(.int (p2 &&& (4 : Int32)))])) target := by
              intro target kt
              refine XS.ifYes X6.here hx rfl (pc0 := 118) (pc' := 127) rfl (hb hby at_118) rfl ((if0 _ _).trans (teq hc118_26).1) (by decide) (by decide) ?_
              exact kt
            refine Done.of ?_ K
            obtain ⟨_, _, ⟨T27, L27, k27, n27⟩, -, X27, ⟨Lc27, hQ27, l27, y27, z27⟩, st27⟩ := Jvm.LawKit.callS X6 hx (y := (⟨"java/lang/Long", "valueOf", "(J)Ljava/lang/Long;"⟩ : MethodName)) hown (mvT hZ (hw _ (List.mem_of_getElem? (i := 23) rfl))) (mvT hZ (hw _ (List.mem_of_getElem? (i := 24) rfl))) (mvT hZ (hw _ (List.mem_of_getElem? (i := 25) rfl))) (mvT hZ (hw _ (List.mem_of_getElem? (i := 26) rfl))) (by decide) (backOf (W := 0) (rm5 l Z a0 hw [] v4 aC clC T6.heap n0 Z6 (SC.ext ((OZ.ext E5).keep K6q (allS gnb5 all0)).2) HB ((OZ.ext E5).keep K6q (allS gnb5 all0))) hZ (hw _ (List.mem_of_getElem? (i := 26) rfl)) (hw _ (List.mem_of_getElem? (i := 25) rfl)) (by decide) (by decide)) (g := (mkF m 129 #[.val (.long q0), .second, .val (.long q1), .second, .val (.int p2), .val (.int v1), .val (.long v4), .second, .val (.ref b5), .unset, .unset] [(.long v4)])) rfl (by rw [hml]; rfl) (argsL := [(.long v4)]) (rest := []) (lenOf pd_4 rfl) rfl (by show 2 * 0 + _ ≤ _; exact Nat.le_of_eq rfl) (hb hby at_129) (fun _ _ => ⟨rfl, rfl, (by decide : 1 + 1 ≤ _), (by decide : 1 + 1 ≤ _)⟩)
            dsimp only [Pt.U, Pt.locs, Pt.cells, Pt.slots] at X27 l27 y27 z27 st27 hQ27
            subst l27 y27 z27
            obtain ⟨b27, rfl, N27q, K27q, EI27⟩ := hQ27
            have N27 := Fr.app N6 N27q
            have Z27 : n0 ≤ T27.heap.size := Nat.le_trans Z6 K27q.1
            obtain ⟨cq28, kq28, q28a, q28b, q28c⟩ := isOf hZ rfl (EI6.keep K27q)
            obtain ⟨_, _, ⟨T28, L28, k28, n28⟩, -, X28, ⟨Lc28, hQ28, l28, y28, z28⟩, st28⟩ := X27.virtualBack hx (y := (⟨"com/example/firepick/firepick/IntegerItem", "equals", "(Ljava/lang/Object;)Z"⟩ : MethodName)) (z := (⟨"com/example/firepick/firepick/IntegerItem", "equals", "(Ljava/lang/Object;)Z"⟩ : MethodName)) hown (mvT hZ (hw _ (List.mem_of_getElem? (i := 16) rfl))) (mvT hZ (hw _ (List.mem_of_getElem? (i := 17) rfl))) (notFace_of_selects (args := #[]) (mvT hZ (hw _ (List.mem_of_getElem? (i := 19) rfl)))) (mvT hZ (hw _ (List.mem_of_getElem? (i := 19) rfl))) (mvT hZ (hw _ (List.mem_of_getElem? (i := 18) rfl))) (by decide) (backOf (W := 0) (rm4l l Z a0 hw [] b5 b27 v4 T27.heap n0 Z27 (FI6.keep K27q (by simp)) EI27) hZ (hw _ (List.mem_of_getElem? (i := 20) rfl)) (hw _ (List.mem_of_getElem? (i := 2) rfl)) (by decide) (by decide)) q28a q28c (g := (mkF m 141 #[.val (.long q0), .second, .val (.long q1), .second, .val (.int p2), .val (.int v1), .val (.long v4), .second, .val (.ref b5), .val (.ref b27), .val (.int (0 : Int32))] [(.ref b27), (.ref b5)])) rfl (by rw [hml]; rfl) (Steps.refl _) (argsL := [(.ref b27)]) (rest := []) (lenOf pd_2 rfl) rfl (by show 2 * 0 + _ ≤ _; exact Nat.le_of_eq rfl) (hb hby at_141) (fun _ _ => ⟨rfl, rfl, (by decide : 2 + 0 ≤ _), (by decide : 2 + 0 ≤ _)⟩)
            dsimp only [Pt.U, Pt.locs, Pt.cells, Pt.slots] at X28 l28 y28 z28 st28 hQ28
            subst l28 y28 z28
            obtain ⟨rfl, N28q, e28⟩ := hQ28
            have N28 := Fr.app N27 N28q
            obtain ⟨fs, hr, hrun, hended, hW, hsame⟩ := X28.leave (v := some (.int (1 : Int32))) (fun h => by rw [Bd.returns] at h; cases h)
            refine ⟨_, _, ?_, hrun, hended, _, _, rfl, ?_, ⟨_, rfl⟩, hW, hsame.mono (by decide) (by decide)⟩
            · show Steps p.tables e below (T6.setTop (mkF m 127 #[.val (.long q0), .second, .val (.long q1), .second, .val (.int p2), .val (.int v1), .val (.long v4), .second, .val (.ref b5), .unset, .unset] [])) _
              refine XS.lload X6.here hx rfl (hb hby at_127) rfl ?_
              show Steps p.tables e below (T6.setTop (mkF m 129 #[.val (.long q0), .second, .val (.long q1), .second, .val (.int p2), .val (.int v1), .val (.long v4), .second, .val (.ref b5), .unset, .unset] [(.long v4)])) _
              refine st27 _ ?_
              show Steps p.tables e below (T27.setTop (mkF m 132 #[.val (.long q0), .second, .val (.long q1), .second, .val (.int p2), .val (.int v1), .val (.long v4), .second, .val (.ref b5), .unset, .unset] [(.ref b27)])) _
              refine XS.astore X27.here hx rfl (hb hby at_132) rfl rfl (l' := #[.val (.long q0), .second, .val (.long q1), .second, .val (.int p2), .val (.int v1), .val (.long v4), .second, .val (.ref b5), .val (.ref b27), .unset]) rfl ?_
              show Steps p.tables e below (T27.setTop (mkF m 134 #[.val (.long q0), .second, .val (.long q1), .second, .val (.int p2), .val (.int v1), .val (.long v4), .second, .val (.ref b5), .val (.ref b27), .unset] [])) _
              refine XS.iconst X27.here hx rfl (hb hby at_134) ?_
              show Steps p.tables e below (T27.setTop (mkF m 135 #[.val (.long q0), .second, .val (.long q1), .second, .val (.int p2), .val (.int v1), .val (.long v4), .second, .val (.ref b5), .val (.ref b27), .unset] [(.int (0 : Int32))])) _
              refine XS.istore X27.here hx rfl (hb hby at_135) rfl (l' := #[.val (.long q0), .second, .val (.long q1), .second, .val (.int p2), .val (.int v1), .val (.long v4), .second, .val (.ref b5), .val (.ref b27), .val (.int (0 : Int32))]) rfl ?_
              show Steps p.tables e below (T27.setTop (mkF m 137 #[.val (.long q0), .second, .val (.long q1), .second, .val (.int p2), .val (.int v1), .val (.long v4), .second, .val (.ref b5), .val (.ref b27), .val (.int (0 : Int32))] [])) _
              refine XS.aload X27.here hx rfl (hb hby at_137) rfl rfl ?_
              show Steps p.tables e below (T27.setTop (mkF m 139 #[.val (.long q0), .second, .val (.long q1), .second, .val (.int p2), .val (.int v1), .val (.long v4), .second, .val (.ref b5), .val (.ref b27), .val (.int (0 : Int32))] [(.ref b5)])) _
              refine XS.aload X27.here hx rfl (hb hby at_139) rfl rfl ?_
              show Steps p.tables e below (T27.setTop (mkF m 141 #[.val (.long q0), .second, .val (.long q1), .second, .val (.int p2), .val (.int v1), .val (.long v4), .second, .val (.ref b5), .val (.ref b27), .val (.int (0 : Int32))] [(.ref b27), (.ref b5)])) _
              refine st28.trans ?_
              show Steps p.tables e below (T28.setTop (mkF m 144 #[.val (.long q0), .second, .val (.long q1), .second, .val (.int p2), .val (.int v1), .val (.long v4), .second, .val (.ref b5), .val (.ref b27), .val (.int (0 : Int32))] [(.int (0 : Int32))])) _
              refine XS.iload X28.here hx rfl (hb hby at_144) rfl ?_
              show Steps p.tables e below (T28.setTop (mkF m 146 #[.val (.long q0), .second, .val (.long q1), .second, .val (.int p2), .val (.int v1), .val (.long v4), .second, .val (.ref b5), .val (.ref b27), .val (.int (0 : Int32))] [(.int (0 : Int32)), (.int (0 : Int32))])) _
              refine XS.icmpNo X28.here hx rfl (hb hby at_146) rfl (teq (rfl : (0 : Int32) = (0 : Int32))).2 ?_
              show Steps p.tables e below (T28.setTop (mkF m 149 #[.val (.long q0), .second, .val (.long q1), .second, .val (.int p2), .val (.int v1), .val (.long v4), .second, .val (.ref b5), .val (.ref b27), .val (.int (0 : Int32))] [])) _
              refine XS.iconst X28.here hx rfl (hb hby at_149) ?_
              show Steps p.tables e below (T28.setTop (mkF m 150 #[.val (.long q0), .second, .val (.long q1), .second, .val (.int p2), .val (.int v1), .val (.long v4), .second, .val (.ref b5), .val (.ref b27), .val (.int (0 : Int32))] [(.int (1 : Int32))])) _
              refine XS.goto X28.here hx rfl (pc0 := 150) (pc' := 154) rfl (hb hby at_150) (by decide) (by decide) ?_
              show Steps p.tables e below (T28.setTop (mkF m 154 #[.val (.long q0), .second, .val (.long q1), .second, .val (.int p2), .val (.int v1), .val (.long v4), .second, .val (.ref b5), .val (.ref b27), .val (.int (0 : Int32))] [(.int (1 : Int32))])) _
              exact retN X28 hx (t := .boolean) Bd.returns (by simp) (hb hby at_154) hr
            · show Q0 Z q0 q1 p2 aC clC h0 n0 _ T28.heap _
              rw [e28]
              exact ⟨rfl, N28⟩
          · have K : ∀ target, Steps p.tables e below (T6.setTop (mkF m 121 #[.val (.long q0), .second, .val (.long q1), .second, .val (.int p2), .val (.int v1), .val (.long v4), .second, .val (.ref b5), .unset, .unset] [])) target → Steps p.tables e below (T6.setTop (mkF m 118 #[.val (.long q0), .second, .val (.long q1), .second, .val (.int p2), .val (.int v1), .val (.long v4), .second, .val (.ref b5), .unset, .unset] [(.int (p2 &&& (4 : Int32)))])) target := by
              intro target kt
              refine XS.ifNo X6.here hx rfl (hb hby at_118) rfl ((if0 _ _).trans (feq hc118_26).1) ?_
              exact kt
            refine Done.of ?_ K
            obtain ⟨cq29, kq29, q29a, q29b, q29c⟩ := isOf hZ rfl EI6
            obtain ⟨_, _, ⟨T29, L29, k29, n29⟩, -, X29, ⟨Lc29, hQ29, l29, y29, z29⟩, st29⟩ := X6.virtualBack hx (y := (⟨"com/example/firepick/firepick/IntegerItem", "equals", "(Ljava/lang/Object;)Z"⟩ : MethodName)) (z := (⟨"com/example/firepick/firepick/IntegerItem", "equals", "(Ljava/lang/Object;)Z"⟩ : MethodName)) hown (mvT hZ (hw _ (List.mem_of_getElem? (i := 16) rfl))) (mvT hZ (hw _ (List.mem_of_getElem? (i := 17) rfl))) (notFace_of_selects (args := #[]) (mvT hZ (hw _ (List.mem_of_getElem? (i := 19) rfl)))) (mvT hZ (hw _ (List.mem_of_getElem? (i := 19) rfl))) (mvT hZ (hw _ (List.mem_of_getElem? (i := 18) rfl))) (by decide) (backOf (W := 0) (rm4n l Z a0 hw [] b5 v4 T6.heap n0 Z6 FI6) hZ (hw _ (List.mem_of_getElem? (i := 20) rfl)) (hw _ (List.mem_of_getElem? (i := 2) rfl)) (by decide) (by decide)) q29a q29c (g := (mkF m 141 #[.val (.long q0), .second, .val (.long q1), .second, .val (.int p2), .val (.int v1), .val (.long v4), .second, .val (.ref b5), .val .null, .val (.int (0 : Int32))] [.null, (.ref b5)])) rfl (by rw [hml]; rfl) (Steps.refl _) (argsL := [.null]) (rest := []) (lenOf pd_2 rfl) rfl (by show 2 * 0 + _ ≤ _; exact Nat.le_of_eq rfl) (hb hby at_141) (fun _ _ => ⟨rfl, rfl, (by decide : 1 + 0 ≤ _), (by decide : 1 + 0 ≤ _)⟩)
            dsimp only [Pt.U, Pt.locs, Pt.cells, Pt.slots] at X29 l29 y29 z29 st29 hQ29
            subst l29 y29 z29
            obtain ⟨rfl, N29q, e29⟩ := hQ29
            have N29 := Fr.app N6 N29q
            obtain ⟨fs, hr, hrun, hended, hW, hsame⟩ := X29.leave (v := some (.int (1 : Int32))) (fun h => by rw [Bd.returns] at h; cases h)
            refine ⟨_, _, ?_, hrun, hended, _, _, rfl, ?_, ⟨_, rfl⟩, hW, hsame.mono (by decide) (by decide)⟩
            · show Steps p.tables e below (T6.setTop (mkF m 121 #[.val (.long q0), .second, .val (.long q1), .second, .val (.int p2), .val (.int v1), .val (.long v4), .second, .val (.ref b5), .unset, .unset] [])) _
              refine XS.aconstNull X6.here hx rfl (hb hby at_121) ?_
              show Steps p.tables e below (T6.setTop (mkF m 122 #[.val (.long q0), .second, .val (.long q1), .second, .val (.int p2), .val (.int v1), .val (.long v4), .second, .val (.ref b5), .unset, .unset] [.null])) _
              refine XS.astore X6.here hx rfl (hb hby at_122) rfl rfl (l' := #[.val (.long q0), .second, .val (.long q1), .second, .val (.int p2), .val (.int v1), .val (.long v4), .second, .val (.ref b5), .val .null, .unset]) rfl ?_
              show Steps p.tables e below (T6.setTop (mkF m 124 #[.val (.long q0), .second, .val (.long q1), .second, .val (.int p2), .val (.int v1), .val (.long v4), .second, .val (.ref b5), .val .null, .unset] [])) _
              refine XS.goto X6.here hx rfl (pc0 := 124) (pc' := 134) rfl (hb hby at_124) (by decide) (by decide) ?_
              show Steps p.tables e below (T6.setTop (mkF m 134 #[.val (.long q0), .second, .val (.long q1), .second, .val (.int p2), .val (.int v1), .val (.long v4), .second, .val (.ref b5), .val .null, .unset] [])) _
              refine XS.iconst X6.here hx rfl (hb hby at_134) ?_
              show Steps p.tables e below (T6.setTop (mkF m 135 #[.val (.long q0), .second, .val (.long q1), .second, .val (.int p2), .val (.int v1), .val (.long v4), .second, .val (.ref b5), .val .null, .unset] [(.int (0 : Int32))])) _
              refine XS.istore X6.here hx rfl (hb hby at_135) rfl (l' := #[.val (.long q0), .second, .val (.long q1), .second, .val (.int p2), .val (.int v1), .val (.long v4), .second, .val (.ref b5), .val .null, .val (.int (0 : Int32))]) rfl ?_
              show Steps p.tables e below (T6.setTop (mkF m 137 #[.val (.long q0), .second, .val (.long q1), .second, .val (.int p2), .val (.int v1), .val (.long v4), .second, .val (.ref b5), .val .null, .val (.int (0 : Int32))] [])) _
              refine XS.aload X6.here hx rfl (hb hby at_137) rfl rfl ?_
              show Steps p.tables e below (T6.setTop (mkF m 139 #[.val (.long q0), .second, .val (.long q1), .second, .val (.int p2), .val (.int v1), .val (.long v4), .second, .val (.ref b5), .val .null, .val (.int (0 : Int32))] [(.ref b5)])) _
              refine XS.aload X6.here hx rfl (hb hby at_139) rfl rfl ?_
              show Steps p.tables e below (T6.setTop (mkF m 141 #[.val (.long q0), .second, .val (.long q1), .second, .val (.int p2), .val (.int v1), .val (.long v4), .second, .val (.ref b5), .val .null, .val (.int (0 : Int32))] [.null, (.ref b5)])) _
              refine st29.trans ?_
              show Steps p.tables e below (T29.setTop (mkF m 144 #[.val (.long q0), .second, .val (.long q1), .second, .val (.int p2), .val (.int v1), .val (.long v4), .second, .val (.ref b5), .val .null, .val (.int (0 : Int32))] [(.int (0 : Int32))])) _
              refine XS.iload X29.here hx rfl (hb hby at_144) rfl ?_
              show Steps p.tables e below (T29.setTop (mkF m 146 #[.val (.long q0), .second, .val (.long q1), .second, .val (.int p2), .val (.int v1), .val (.long v4), .second, .val (.ref b5), .val .null, .val (.int (0 : Int32))] [(.int (0 : Int32)), (.int (0 : Int32))])) _
              refine XS.icmpNo X29.here hx rfl (hb hby at_146) rfl (teq (rfl : (0 : Int32) = (0 : Int32))).2 ?_
              show Steps p.tables e below (T29.setTop (mkF m 149 #[.val (.long q0), .second, .val (.long q1), .second, .val (.int p2), .val (.int v1), .val (.long v4), .second, .val (.ref b5), .val .null, .val (.int (0 : Int32))] [])) _
              refine XS.iconst X29.here hx rfl (hb hby at_149) ?_
              show Steps p.tables e below (T29.setTop (mkF m 150 #[.val (.long q0), .second, .val (.long q1), .second, .val (.int p2), .val (.int v1), .val (.long v4), .second, .val (.ref b5), .val .null, .val (.int (0 : Int32))] [(.int (1 : Int32))])) _
              refine XS.goto X29.here hx rfl (pc0 := 150) (pc' := 154) rfl (hb hby at_150) (by decide) (by decide) ?_
              show Steps p.tables e below (T29.setTop (mkF m 154 #[.val (.long q0), .second, .val (.long q1), .second, .val (.int p2), .val (.int v1), .val (.long v4), .second, .val (.ref b5), .val .null, .val (.int (0 : Int32))] [(.int (1 : Int32))])) _
              exact retN X29 hx (t := .boolean) Bd.returns (by simp) (hb hby at_154) hr
            · show Q0 Z q0 q1 p2 aC clC h0 n0 _ T29.heap _
              rw [e29]
              exact ⟨rfl, N29⟩
  · have K : ∀ target, Steps p.tables e below (s₁.setTop (mkF m 20 #[.val (.long q0), .second, .val (.long q1), .second, .val (.int p2), .val (.int v1), .unset, .unset, .unset, .unset, .unset] [])) target → Steps p.tables e below (s₁.setTop (mkF m 9 #[.val (.long q0), .second, .val (.long q1), .second, .val (.int p2), .val (.int v1), .unset, .unset, .unset, .unset, .unset] [(.int (2 : Int32)), (.int v1)])) target := by
      intro target kt
      refine XS.icmpYes X0.here hx rfl (pc0 := 9) (pc' := 20) rfl (hb hby at_9) rfl (feq hc9_3).2 (by decide) (by decide) ?_
      exact kt
    refine Done.of ?_ K
    obtain ⟨T30, h30, X30, e30, E30, A30, D30, -, st30⟩ := newO X0 hx hZ hown (hw _ (List.mem_of_getElem? (i := 0) rfl)) (hw _ (List.mem_of_getElem? (i := 1) rfl)) (hw _ (List.mem_of_getElem? (i := 2) rfl)) e0 (g := (mkF m 23 #[.val (.long q0), .second, .val (.long q1), .second, .val (.int p2), .val (.int v1), .val (.long q0), .second, .unset, .unset, .unset] [])) rfl (hb hby at_23) (by decide) (by decide)
    obtain ⟨b30, g30⟩ : ∃ z, z = h0.size := ⟨_, rfl⟩
    rw [← g30] at A30 D30 st30
    have gnb30 : n0 ≤ b30 := Nat.le_trans Z0 (Nat.le_of_eq g30.symm)
    have Z30 : n0 ≤ h30.size := Nat.le_trans Z0 E30.1
    have F30_value : Fld Z h30 b30 "com/example/firepick/firepick/IntegerItem" "value" "J" (.long (0 : Int64)) := D30 (Or.inr (hw _ (List.mem_of_getElem? (i := 15) rfl))) (ty := .long) (by decide)
    obtain ⟨_, _, ⟨T31, L31, k31, n31⟩, -, X31, ⟨Lc31, hQ31, l31, y31, z31⟩, st31⟩ := X30.specialBack hx (y := (⟨"com/example/firepick/firepick/IntegerItem", "<init>", "(J)V"⟩ : MethodName)) rfl hown (mvT hZ (hw _ (List.mem_of_getElem? (i := 3) rfl))) (mvT hZ (hw _ (List.mem_of_getElem? (i := 4) rfl))) (mvT hZ (hw _ (List.mem_of_getElem? (i := 5) rfl))) (by decide) (backOf (W := 1) (rm1 l Z a0 hw [] b30 q0 h30 n0 Z30 A30 gnb30 F30_value) hZ (hw _ (List.mem_of_getElem? (i := 5) rfl)) (hw _ (List.mem_of_getElem? (i := 2) rfl)) (by decide) (by decide)) (g := (mkF m 29 #[.val (.long q0), .second, .val (.long q1), .second, .val (.int p2), .val (.int v1), .val (.long q0), .second, .unset, .unset, .unset] [(.long q0), (.ref b30), (.ref b30)])) rfl (by rw [hml]; rfl) (Steps.refl _) (a := b30) (argsL := [(.long q0)]) (rest := [(.ref b30)]) (lenOf pd_1 rfl) rfl (by show 2 * 0 + _ ≤ _; exact Nat.le_of_eq rfl) (hb hby at_29) (fun _ _ => ⟨rfl, e30, (by decide : 1 + 0 ≤ _), (by decide : 1 + 0 ≤ _)⟩)
    dsimp only [Pt.U, Pt.locs, Pt.cells, Pt.slots] at X31 l31 y31 z31 st31 hQ31
    subst l31 y31 z31
    obtain ⟨rfl, N31q, K31q, EI31, FI31⟩ := hQ31
    have N31 := Fr.app N0 N31q
    have Z31 : n0 ≤ T31.heap.size := Nat.le_trans Z30 K31q.1
    have K32 : ∀ target, Steps p.tables e below (T31.setTop (mkF m 36 #[.val (.long q0), .second, .val (.long q1), .second, .val (.int p2), .val (.int v1), .val (.long q0), .second, .val (.ref b30), .unset, .unset] [(.int v1)])) target → Steps p.tables e below (s₁.setTop (mkF m 20 #[.val (.long q0), .second, .val (.long q1), .second, .val (.int p2), .val (.int v1), .unset, .unset, .unset, .unset, .unset] [])) target := by
      intro target kt
      show Steps p.tables e below (s₁.setTop (mkF m 20 #[.val (.long q0), .second, .val (.long q1), .second, .val (.int p2), .val (.int v1), .unset, .unset, .unset, .unset, .unset] [])) _
      refine XS.lloadN X0.here hx rfl (hb hby at_20) rfl ?_
      show Steps p.tables e below (s₁.setTop (mkF m 21 #[.val (.long q0), .second, .val (.long q1), .second, .val (.int p2), .val (.int v1), .unset, .unset, .unset, .unset, .unset] [(.long q0)])) _
      show Steps p.tables e below (s₁.setTop (mkF m 21 #[.val (.long q0), .second, .val (.long q1), .second, .val (.int p2), .val (.int v1), .unset, .unset, .unset, .unset, .unset] [(.long q0)])) _
      refine XS.lstore X0.here hx rfl (hb hby at_21) rfl (l' := #[.val (.long q0), .second, .val (.long q1), .second, .val (.int p2), .val (.int v1), .val (.long q0), .second, .unset, .unset, .unset]) rfl ?_
      show Steps p.tables e below (s₁.setTop (mkF m 23 #[.val (.long q0), .second, .val (.long q1), .second, .val (.int p2), .val (.int v1), .val (.long q0), .second, .unset, .unset, .unset] [])) _
      refine st30 _ ?_
      show Steps p.tables e below (T30.setTop (mkF m 26 #[.val (.long q0), .second, .val (.long q1), .second, .val (.int p2), .val (.int v1), .val (.long q0), .second, .unset, .unset, .unset] [(.ref b30)])) _
      refine XS.dup X30.here hx rfl (hb hby at_26) rfl rfl ?_
      show Steps p.tables e below (T30.setTop (mkF m 27 #[.val (.long q0), .second, .val (.long q1), .second, .val (.int p2), .val (.int v1), .val (.long q0), .second, .unset, .unset, .unset] [(.ref b30), (.ref b30)])) _
      refine XS.lload X30.here hx rfl (hb hby at_27) rfl ?_
      show Steps p.tables e below (T30.setTop (mkF m 29 #[.val (.long q0), .second, .val (.long q1), .second, .val (.int p2), .val (.int v1), .val (.long q0), .second, .unset, .unset, .unset] [(.long q0), (.ref b30), (.ref b30)])) _
      refine st31.trans ?_
      show Steps p.tables e below (T31.setTop (mkF m 32 #[.val (.long q0), .second, .val (.long q1), .second, .val (.int p2), .val (.int v1), .val (.long q0), .second, .unset, .unset, .unset] [(.ref b30)])) _
      refine XS.astore X31.here hx rfl (hb hby at_32) rfl rfl (l' := #[.val (.long q0), .second, .val (.long q1), .second, .val (.int p2), .val (.int v1), .val (.long q0), .second, .val (.ref b30), .unset, .unset]) rfl ?_
      show Steps p.tables e below (T31.setTop (mkF m 34 #[.val (.long q0), .second, .val (.long q1), .second, .val (.int p2), .val (.int v1), .val (.long q0), .second, .val (.ref b30), .unset, .unset] [])) _
      refine XS.iload X31.here hx rfl (hb hby at_34) rfl ?_
      exact kt
    refine Done.of ?_ K32
    by_cases hc36_33 : v1 = (0 : Int32)
    · have K : ∀ target, Steps p.tables e below (T31.setTop (mkF m 39 #[.val (.long q0), .second, .val (.long q1), .second, .val (.int p2), .val (.int v1), .val (.long q0), .second, .val (.ref b30), .unset, .unset] [])) target → Steps p.tables e below (T31.setTop (mkF m 36 #[.val (.long q0), .second, .val (.long q1), .second, .val (.int p2), .val (.int v1), .val (.long q0), .second, .val (.ref b30), .unset, .unset] [(.int v1)])) target := by
        intro target kt
        refine XS.ifNo X31.here hx rfl (hb hby at_36) rfl ((if0 _ _).trans (teq hc36_33).2) ?_
        exact kt
      refine Done.of ?_ K
      obtain ⟨T34, h34, X34, e34, E34, A34, D34, -, st34⟩ := newO X31 hx hZ hown (hw _ (List.mem_of_getElem? (i := 0) rfl)) (hw _ (List.mem_of_getElem? (i := 1) rfl)) (hw _ (List.mem_of_getElem? (i := 2) rfl)) rfl (g := (mkF m 39 #[.val (.long q0), .second, .val (.long q1), .second, .val (.int p2), .val (.int v1), .val (.long q0), .second, .val (.ref b30), .unset, .unset] [])) rfl (hb hby at_39) (by decide) (by decide)
      obtain ⟨b34, g34⟩ : ∃ z, z = T31.heap.size := ⟨_, rfl⟩
      rw [← g34] at A34 D34 st34
      have gnb34 : n0 ≤ b34 := Nat.le_trans Z31 (Nat.le_of_eq g34.symm)
      have Z34 : n0 ≤ h34.size := Nat.le_trans Z31 E34.1
      have ne_34_1 : b30 ≠ b34 := Nat.ne_of_lt (Nat.lt_of_lt_of_le EI31.lt (Nat.le_of_eq g34.symm))
      have F34_value : Fld Z h34 b34 "com/example/firepick/firepick/IntegerItem" "value" "J" (.long (0 : Int64)) := D34 (Or.inr (hw _ (List.mem_of_getElem? (i := 15) rfl))) (ty := .long) (by decide)
      obtain ⟨_, _, ⟨T35, L35, k35, n35⟩, -, X35, ⟨Lc35, hQ35, l35, y35, z35⟩, st35⟩ := X34.specialBack hx (y := (⟨"com/example/firepick/firepick/IntegerItem", "<init>", "(J)V"⟩ : MethodName)) rfl hown (mvT hZ (hw _ (List.mem_of_getElem? (i := 3) rfl))) (mvT hZ (hw _ (List.mem_of_getElem? (i := 4) rfl))) (mvT hZ (hw _ (List.mem_of_getElem? (i := 5) rfl))) (by decide) (backOf (W := 1) (rm1 l Z a0 hw [] b34 q1 h34 n0 Z34 A34 gnb34 F34_value) hZ (hw _ (List.mem_of_getElem? (i := 5) rfl)) (hw _ (List.mem_of_getElem? (i := 2) rfl)) (by decide) (by decide)) (g := (mkF m 44 #[.val (.long q0), .second, .val (.long q1), .second, .val (.int p2), .val (.int v1), .val (.long q0), .second, .val (.ref b30), .unset, .unset] [(.long q1), (.ref b34), (.ref b34)])) rfl (by rw [hml]; rfl) (Steps.refl _) (a := b34) (argsL := [(.long q1)]) (rest := [(.ref b34)]) (lenOf pd_1 rfl) rfl (by show 2 * 0 + _ ≤ _; exact Nat.le_of_eq rfl) (hb hby at_44) (fun _ _ => ⟨rfl, e34, (by decide : 2 + 0 ≤ _), (by decide : 2 + 0 ≤ _)⟩)
      dsimp only [Pt.U, Pt.locs, Pt.cells, Pt.slots] at X35 l35 y35 z35 st35 hQ35
      subst l35 y35 z35
      obtain ⟨rfl, N35q, K35q, EI35, FI35⟩ := hQ35
      have N35 := Fr.app N31 N35q
      have Z35 : n0 ≤ T35.heap.size := Nat.le_trans Z34 K35q.1
      have J53_36 : ∀ wj : Int32, wj = (if q0 = q1 then (1 : Int32) else (0 : Int32)) → ∀ target, Steps p.tables e below (T35.setTop (mkF m 61 #[.val (.long q0), .second, .val (.long q1), .second, .val (.int p2), .val (.int v1), .val (.long q0), .second, .val (.ref b30), .val (.ref b34), .unset] [(.int wj)])) target → Steps p.tables e below (T35.setTop (mkF m 53 #[.val (.long q0), .second, .val (.long q1), .second, .val (.int p2), .val (.int v1), .val (.long q0), .second, .val (.ref b30), .val (.ref b34), .unset] [(.int (lcmpW q0 q1))])) target := by
        intro wj hw0 target kt
        by_cases hj53 : q0 = q1
        · rw [if_pos hj53] at hw0
          show Steps p.tables e below (T35.setTop (mkF m 53 #[.val (.long q0), .second, .val (.long q1), .second, .val (.int p2), .val (.int v1), .val (.long q0), .second, .val (.ref b30), .val (.ref b34), .unset] [(.int (lcmpW q0 q1))])) _
          refine XS.ifNo X35.here hx rfl (hb hby at_53) rfl ((if0 _ _).trans (teq ((lw_eq q0 q1).mpr hj53)).2) ?_
          show Steps p.tables e below (T35.setTop (mkF m 56 #[.val (.long q0), .second, .val (.long q1), .second, .val (.int p2), .val (.int v1), .val (.long q0), .second, .val (.ref b30), .val (.ref b34), .unset] [])) _
          refine XS.iconst X35.here hx rfl (hb hby at_56) ?_
          show Steps p.tables e below (T35.setTop (mkF m 57 #[.val (.long q0), .second, .val (.long q1), .second, .val (.int p2), .val (.int v1), .val (.long q0), .second, .val (.ref b30), .val (.ref b34), .unset] [(.int (1 : Int32))])) _
          refine XS.goto X35.here hx rfl (pc0 := 57) (pc' := 61) rfl (hb hby at_57) (by decide) (by decide) ?_
          rw [hw0] at kt
          exact kt
        · rw [if_neg hj53] at hw0
          show Steps p.tables e below (T35.setTop (mkF m 53 #[.val (.long q0), .second, .val (.long q1), .second, .val (.int p2), .val (.int v1), .val (.long q0), .second, .val (.ref b30), .val (.ref b34), .unset] [(.int (lcmpW q0 q1))])) _
          refine XS.ifYes X35.here hx rfl (pc0 := 53) (pc' := 60) rfl (hb hby at_53) rfl ((if0 _ _).trans (feq (fun q => hj53 ((lw_eq q0 q1).mp q))).2) (by decide) (by decide) ?_
          show Steps p.tables e below (T35.setTop (mkF m 60 #[.val (.long q0), .second, .val (.long q1), .second, .val (.int p2), .val (.int v1), .val (.long q0), .second, .val (.ref b30), .val (.ref b34), .unset] [])) _
          refine XS.iconst X35.here hx rfl (hb hby at_60) ?_
          rw [hw0] at kt
          exact kt
      obtain ⟨cq37, kq37, q37a, q37b, q37c⟩ := isOf hZ rfl ((EI31.ext E34).keep K35q)
      obtain ⟨_, _, ⟨T37, L37, k37, n37⟩, -, X37, ⟨Lc37, hQ37, l37, y37, z37⟩, st37⟩ := X35.virtualBack hx (y := (⟨"com/example/firepick/firepick/IntegerItem", "equals", "(Ljava/lang/Object;)Z"⟩ : MethodName)) (z := (⟨"com/example/firepick/firepick/IntegerItem", "equals", "(Ljava/lang/Object;)Z"⟩ : MethodName)) hown (mvT hZ (hw _ (List.mem_of_getElem? (i := 16) rfl))) (mvT hZ (hw _ (List.mem_of_getElem? (i := 17) rfl))) (notFace_of_selects (args := #[]) (mvT hZ (hw _ (List.mem_of_getElem? (i := 19) rfl)))) (mvT hZ (hw _ (List.mem_of_getElem? (i := 19) rfl))) (mvT hZ (hw _ (List.mem_of_getElem? (i := 18) rfl))) (by decide) (backOf (W := 0) (rm4i l Z a0 hw [] b30 b34 q0 q1 T35.heap n0 Z35 ((FI31.ext E34).keep K35q (fun hq => ne_34_1 (List.mem_singleton.mp hq))) EI35 FI35) hZ (hw _ (List.mem_of_getElem? (i := 20) rfl)) (hw _ (List.mem_of_getElem? (i := 2) rfl)) (by decide) (by decide)) q37a q37c (g := (mkF m 141 #[.val (.long q0), .second, .val (.long q1), .second, .val (.int p2), .val (.int v1), .val (.long q0), .second, .val (.ref b30), .val (.ref b34), .val (.int (if q0 = q1 then (1 : Int32) else (0 : Int32)))] [(.ref b34), (.ref b30)])) rfl (by rw [hml]; rfl) (Steps.refl _) (argsL := [(.ref b34)]) (rest := []) (lenOf pd_2 rfl) rfl (by show 2 * 0 + _ ≤ _; exact Nat.le_of_eq rfl) (hb hby at_141) (fun _ _ => ⟨rfl, rfl, (by decide : 2 + 0 ≤ _), (by decide : 2 + 0 ≤ _)⟩)
      dsimp only [Pt.U, Pt.locs, Pt.cells, Pt.slots] at X37 l37 y37 z37 st37 hQ37
      subst l37 y37 z37
      obtain ⟨rfl, N37q, e37⟩ := hQ37
      have N37 := Fr.app N35 N37q
      have J146_38 : ∀ wj : Int32, wj = (if (if q1 = q0 then (1 : Int32) else (0 : Int32)) = (if q0 = q1 then (1 : Int32) else (0 : Int32)) then (1 : Int32) else (0 : Int32)) → ∀ target, Steps p.tables e below (T37.setTop (mkF m 154 #[.val (.long q0), .second, .val (.long q1), .second, .val (.int p2), .val (.int v1), .val (.long q0), .second, .val (.ref b30), .val (.ref b34), .val (.int (if q0 = q1 then (1 : Int32) else (0 : Int32)))] [(.int wj)])) target → Steps p.tables e below (T37.setTop (mkF m 146 #[.val (.long q0), .second, .val (.long q1), .second, .val (.int p2), .val (.int v1), .val (.long q0), .second, .val (.ref b30), .val (.ref b34), .val (.int (if q0 = q1 then (1 : Int32) else (0 : Int32)))] [(.int (if q0 = q1 then (1 : Int32) else (0 : Int32))), (.int (if q1 = q0 then (1 : Int32) else (0 : Int32)))])) target := by
        intro wj hw0 target kt
        by_cases hj146 : (if q1 = q0 then (1 : Int32) else (0 : Int32)) = (if q0 = q1 then (1 : Int32) else (0 : Int32))
        · rw [if_pos hj146] at hw0
          show Steps p.tables e below (T37.setTop (mkF m 146 #[.val (.long q0), .second, .val (.long q1), .second, .val (.int p2), .val (.int v1), .val (.long q0), .second, .val (.ref b30), .val (.ref b34), .val (.int (if q0 = q1 then (1 : Int32) else (0 : Int32)))] [(.int (if q0 = q1 then (1 : Int32) else (0 : Int32))), (.int (if q1 = q0 then (1 : Int32) else (0 : Int32)))])) _
          refine XS.icmpNo X37.here hx rfl (hb hby at_146) rfl (teq hj146).2 ?_
          show Steps p.tables e below (T37.setTop (mkF m 149 #[.val (.long q0), .second, .val (.long q1), .second, .val (.int p2), .val (.int v1), .val (.long q0), .second, .val (.ref b30), .val (.ref b34), .val (.int (if q0 = q1 then (1 : Int32) else (0 : Int32)))] [])) _
          refine XS.iconst X37.here hx rfl (hb hby at_149) ?_
          show Steps p.tables e below (T37.setTop (mkF m 150 #[.val (.long q0), .second, .val (.long q1), .second, .val (.int p2), .val (.int v1), .val (.long q0), .second, .val (.ref b30), .val (.ref b34), .val (.int (if q0 = q1 then (1 : Int32) else (0 : Int32)))] [(.int (1 : Int32))])) _
          refine XS.goto X37.here hx rfl (pc0 := 150) (pc' := 154) rfl (hb hby at_150) (by decide) (by decide) ?_
          rw [hw0] at kt
          exact kt
        · rw [if_neg hj146] at hw0
          show Steps p.tables e below (T37.setTop (mkF m 146 #[.val (.long q0), .second, .val (.long q1), .second, .val (.int p2), .val (.int v1), .val (.long q0), .second, .val (.ref b30), .val (.ref b34), .val (.int (if q0 = q1 then (1 : Int32) else (0 : Int32)))] [(.int (if q0 = q1 then (1 : Int32) else (0 : Int32))), (.int (if q1 = q0 then (1 : Int32) else (0 : Int32)))])) _
          refine XS.icmpYes X37.here hx rfl (pc0 := 146) (pc' := 153) rfl (hb hby at_146) rfl (feq hj146).2 (by decide) (by decide) ?_
          show Steps p.tables e below (T37.setTop (mkF m 153 #[.val (.long q0), .second, .val (.long q1), .second, .val (.int p2), .val (.int v1), .val (.long q0), .second, .val (.ref b30), .val (.ref b34), .val (.int (if q0 = q1 then (1 : Int32) else (0 : Int32)))] [])) _
          refine XS.iconst X37.here hx rfl (hb hby at_153) ?_
          rw [hw0] at kt
          exact kt
      obtain ⟨fs, hr, hrun, hended, hW, hsame⟩ := X37.leave (v := some (.int (nar .boolean (if (if q1 = q0 then (1 : Int32) else (0 : Int32)) = (if q0 = q1 then (1 : Int32) else (0 : Int32)) then (1 : Int32) else (0 : Int32))))) (fun h => by rw [Bd.returns] at h; cases h)
      refine ⟨_, _, ?_, hrun, hended, _, _, rfl, ?_, ⟨_, rfl⟩, hW, hsame.mono (by decide) (by decide)⟩
      · show Steps p.tables e below (T31.setTop (mkF m 39 #[.val (.long q0), .second, .val (.long q1), .second, .val (.int p2), .val (.int v1), .val (.long q0), .second, .val (.ref b30), .unset, .unset] [])) _
        refine st34 _ ?_
        show Steps p.tables e below (T34.setTop (mkF m 42 #[.val (.long q0), .second, .val (.long q1), .second, .val (.int p2), .val (.int v1), .val (.long q0), .second, .val (.ref b30), .unset, .unset] [(.ref b34)])) _
        refine XS.dup X34.here hx rfl (hb hby at_42) rfl rfl ?_
        show Steps p.tables e below (T34.setTop (mkF m 43 #[.val (.long q0), .second, .val (.long q1), .second, .val (.int p2), .val (.int v1), .val (.long q0), .second, .val (.ref b30), .unset, .unset] [(.ref b34), (.ref b34)])) _
        refine XS.lloadN X34.here hx rfl (hb hby at_43) rfl ?_
        show Steps p.tables e below (T34.setTop (mkF m 44 #[.val (.long q0), .second, .val (.long q1), .second, .val (.int p2), .val (.int v1), .val (.long q0), .second, .val (.ref b30), .unset, .unset] [(.long q1), (.ref b34), (.ref b34)])) _
        refine st35.trans ?_
        show Steps p.tables e below (T35.setTop (mkF m 47 #[.val (.long q0), .second, .val (.long q1), .second, .val (.int p2), .val (.int v1), .val (.long q0), .second, .val (.ref b30), .unset, .unset] [(.ref b34)])) _
        refine XS.astore X35.here hx rfl (hb hby at_47) rfl rfl (l' := #[.val (.long q0), .second, .val (.long q1), .second, .val (.int p2), .val (.int v1), .val (.long q0), .second, .val (.ref b30), .val (.ref b34), .unset]) rfl ?_
        show Steps p.tables e below (T35.setTop (mkF m 49 #[.val (.long q0), .second, .val (.long q1), .second, .val (.int p2), .val (.int v1), .val (.long q0), .second, .val (.ref b30), .val (.ref b34), .unset] [])) _
        refine XS.lload X35.here hx rfl (hb hby at_49) rfl ?_
        show Steps p.tables e below (T35.setTop (mkF m 51 #[.val (.long q0), .second, .val (.long q1), .second, .val (.int p2), .val (.int v1), .val (.long q0), .second, .val (.ref b30), .val (.ref b34), .unset] [(.long q0)])) _
        refine XS.lloadN X35.here hx rfl (hb hby at_51) rfl ?_
        show Steps p.tables e below (T35.setTop (mkF m 52 #[.val (.long q0), .second, .val (.long q1), .second, .val (.int p2), .val (.int v1), .val (.long q0), .second, .val (.ref b30), .val (.ref b34), .unset] [(.long q1), (.long q0)])) _
        refine XS.lcmp X35.here hx rfl (hb hby at_52) rfl ?_
        show Steps p.tables e below (T35.setTop (mkF m 53 #[.val (.long q0), .second, .val (.long q1), .second, .val (.int p2), .val (.int v1), .val (.long q0), .second, .val (.ref b30), .val (.ref b34), .unset] [(.int (lcmpW q0 q1))])) _
        refine J53_36 _ rfl _ ?_
        show Steps p.tables e below (T35.setTop (mkF m 61 #[.val (.long q0), .second, .val (.long q1), .second, .val (.int p2), .val (.int v1), .val (.long q0), .second, .val (.ref b30), .val (.ref b34), .unset] [(.int (if q0 = q1 then (1 : Int32) else (0 : Int32)))])) _
        refine XS.istore X35.here hx rfl (hb hby at_61) rfl (l' := #[.val (.long q0), .second, .val (.long q1), .second, .val (.int p2), .val (.int v1), .val (.long q0), .second, .val (.ref b30), .val (.ref b34), .val (.int (if q0 = q1 then (1 : Int32) else (0 : Int32)))]) rfl ?_
        show Steps p.tables e below (T35.setTop (mkF m 63 #[.val (.long q0), .second, .val (.long q1), .second, .val (.int p2), .val (.int v1), .val (.long q0), .second, .val (.ref b30), .val (.ref b34), .val (.int (if q0 = q1 then (1 : Int32) else (0 : Int32)))] [])) _
        refine XS.goto X35.here hx rfl (pc0 := 63) (pc' := 137) rfl (hb hby at_63) (by decide) (by decide) ?_
        show Steps p.tables e below (T35.setTop (mkF m 137 #[.val (.long q0), .second, .val (.long q1), .second, .val (.int p2), .val (.int v1), .val (.long q0), .second, .val (.ref b30), .val (.ref b34), .val (.int (if q0 = q1 then (1 : Int32) else (0 : Int32)))] [])) _
        refine XS.aload X35.here hx rfl (hb hby at_137) rfl rfl ?_
        show Steps p.tables e below (T35.setTop (mkF m 139 #[.val (.long q0), .second, .val (.long q1), .second, .val (.int p2), .val (.int v1), .val (.long q0), .second, .val (.ref b30), .val (.ref b34), .val (.int (if q0 = q1 then (1 : Int32) else (0 : Int32)))] [(.ref b30)])) _
        refine XS.aload X35.here hx rfl (hb hby at_139) rfl rfl ?_
        show Steps p.tables e below (T35.setTop (mkF m 141 #[.val (.long q0), .second, .val (.long q1), .second, .val (.int p2), .val (.int v1), .val (.long q0), .second, .val (.ref b30), .val (.ref b34), .val (.int (if q0 = q1 then (1 : Int32) else (0 : Int32)))] [(.ref b34), (.ref b30)])) _
        refine st37.trans ?_
        show Steps p.tables e below (T37.setTop (mkF m 144 #[.val (.long q0), .second, .val (.long q1), .second, .val (.int p2), .val (.int v1), .val (.long q0), .second, .val (.ref b30), .val (.ref b34), .val (.int (if q0 = q1 then (1 : Int32) else (0 : Int32)))] [(.int (if q1 = q0 then (1 : Int32) else (0 : Int32)))])) _
        refine XS.iload X37.here hx rfl (hb hby at_144) rfl ?_
        show Steps p.tables e below (T37.setTop (mkF m 146 #[.val (.long q0), .second, .val (.long q1), .second, .val (.int p2), .val (.int v1), .val (.long q0), .second, .val (.ref b30), .val (.ref b34), .val (.int (if q0 = q1 then (1 : Int32) else (0 : Int32)))] [(.int (if q0 = q1 then (1 : Int32) else (0 : Int32))), (.int (if q1 = q0 then (1 : Int32) else (0 : Int32)))])) _
        refine J146_38 _ rfl _ ?_
        show Steps p.tables e below (T37.setTop (mkF m 154 #[.val (.long q0), .second, .val (.long q1), .second, .val (.int p2), .val (.int v1), .val (.long q0), .second, .val (.ref b30), .val (.ref b34), .val (.int (if q0 = q1 then (1 : Int32) else (0 : Int32)))] [(.int (if (if q1 = q0 then (1 : Int32) else (0 : Int32)) = (if q0 = q1 then (1 : Int32) else (0 : Int32)) then (1 : Int32) else (0 : Int32)))])) _
        exact retN X37 hx (t := .boolean) Bd.returns (by simp) (hb hby at_154) hr
      · show Q0 Z q0 q1 p2 aC clC h0 n0 _ T37.heap _
        rw [e37]
        exact ⟨by simp [own_sym, nar, eq_comm], N37⟩
    · have K : ∀ target, Steps p.tables e below (T31.setTop (mkF m 66 #[.val (.long q0), .second, .val (.long q1), .second, .val (.int p2), .val (.int v1), .val (.long q0), .second, .val (.ref b30), .unset, .unset] [])) target → Steps p.tables e below (T31.setTop (mkF m 36 #[.val (.long q0), .second, .val (.long q1), .second, .val (.int p2), .val (.int v1), .val (.long q0), .second, .val (.ref b30), .unset, .unset] [(.int v1)])) target := by
        intro target kt
        refine XS.ifYes X31.here hx rfl (pc0 := 36) (pc' := 66) rfl (hb hby at_36) rfl ((if0 _ _).trans (feq hc36_33).2) (by decide) (by decide) ?_
        exact kt
      refine Done.of ?_ K
      have K39 : ∀ target, Steps p.tables e below (T31.setTop (mkF m 69 #[.val (.long q0), .second, .val (.long q1), .second, .val (.int p2), .val (.int v1), .val (.long q0), .second, .val (.ref b30), .unset, .unset] [(.int (1 : Int32)), (.int v1)])) target → Steps p.tables e below (T31.setTop (mkF m 66 #[.val (.long q0), .second, .val (.long q1), .second, .val (.int p2), .val (.int v1), .val (.long q0), .second, .val (.ref b30), .unset, .unset] [])) target := by
        intro target kt
        show Steps p.tables e below (T31.setTop (mkF m 66 #[.val (.long q0), .second, .val (.long q1), .second, .val (.int p2), .val (.int v1), .val (.long q0), .second, .val (.ref b30), .unset, .unset] [])) _
        refine XS.iload X31.here hx rfl (hb hby at_66) rfl ?_
        show Steps p.tables e below (T31.setTop (mkF m 68 #[.val (.long q0), .second, .val (.long q1), .second, .val (.int p2), .val (.int v1), .val (.long q0), .second, .val (.ref b30), .unset, .unset] [(.int v1)])) _
        refine XS.iconst X31.here hx rfl (hb hby at_68) ?_
        exact kt
      refine Done.of ?_ K39
      by_cases hc69_40 : v1 = (1 : Int32)
      · have K : ∀ target, Steps p.tables e below (T31.setTop (mkF m 72 #[.val (.long q0), .second, .val (.long q1), .second, .val (.int p2), .val (.int v1), .val (.long q0), .second, .val (.ref b30), .unset, .unset] [])) target → Steps p.tables e below (T31.setTop (mkF m 69 #[.val (.long q0), .second, .val (.long q1), .second, .val (.int p2), .val (.int v1), .val (.long q0), .second, .val (.ref b30), .unset, .unset] [(.int (1 : Int32)), (.int v1)])) target := by
          intro target kt
          refine XS.icmpNo X31.here hx rfl (hb hby at_69) rfl (teq hc69_40).2 ?_
          exact kt
        refine Done.of ?_ K
        obtain ⟨T41, h41, X41, e41, E41, A41, D41, -, st41⟩ := newO X31 hx hZ hown (hw _ (List.mem_of_getElem? (i := 0) rfl)) (hw _ (List.mem_of_getElem? (i := 1) rfl)) (hw _ (List.mem_of_getElem? (i := 2) rfl)) rfl (g := (mkF m 72 #[.val (.long q0), .second, .val (.long q1), .second, .val (.int p2), .val (.int v1), .val (.long q0), .second, .val (.ref b30), .unset, .unset] [])) rfl (hb hby at_72) (by decide) (by decide)
        obtain ⟨b41, g41⟩ : ∃ z, z = T31.heap.size := ⟨_, rfl⟩
        rw [← g41] at A41 D41 st41
        have gnb41 : n0 ≤ b41 := Nat.le_trans Z31 (Nat.le_of_eq g41.symm)
        have Z41 : n0 ≤ h41.size := Nat.le_trans Z31 E41.1
        have ne_41_1 : b30 ≠ b41 := Nat.ne_of_lt (Nat.lt_of_lt_of_le EI31.lt (Nat.le_of_eq g41.symm))
        have F41_value : Fld Z h41 b41 "com/example/firepick/firepick/IntegerItem" "value" "J" (.long (0 : Int64)) := D41 (Or.inr (hw _ (List.mem_of_getElem? (i := 15) rfl))) (ty := .long) (by decide)
        obtain ⟨_, _, ⟨T42, L42, k42, n42⟩, -, X42, ⟨Lc42, hQ42, l42, y42, z42⟩, st42⟩ := X41.specialBack hx (y := (⟨"com/example/firepick/firepick/IntegerItem", "<init>", "(J)V"⟩ : MethodName)) rfl hown (mvT hZ (hw _ (List.mem_of_getElem? (i := 3) rfl))) (mvT hZ (hw _ (List.mem_of_getElem? (i := 4) rfl))) (mvT hZ (hw _ (List.mem_of_getElem? (i := 5) rfl))) (by decide) (backOf (W := 1) (rm1 l Z a0 hw [] b41 q0 h41 n0 Z41 A41 gnb41 F41_value) hZ (hw _ (List.mem_of_getElem? (i := 5) rfl)) (hw _ (List.mem_of_getElem? (i := 2) rfl)) (by decide) (by decide)) (g := (mkF m 78 #[.val (.long q0), .second, .val (.long q1), .second, .val (.int p2), .val (.int v1), .val (.long q0), .second, .val (.ref b30), .unset, .unset] [(.long q0), (.ref b41), (.ref b41)])) rfl (by rw [hml]; rfl) (Steps.refl _) (a := b41) (argsL := [(.long q0)]) (rest := [(.ref b41)]) (lenOf pd_1 rfl) rfl (by show 2 * 0 + _ ≤ _; exact Nat.le_of_eq rfl) (hb hby at_78) (fun _ _ => ⟨rfl, e41, (by decide : 2 + 0 ≤ _), (by decide : 2 + 0 ≤ _)⟩)
        dsimp only [Pt.U, Pt.locs, Pt.cells, Pt.slots] at X42 l42 y42 z42 st42 hQ42
        subst l42 y42 z42
        obtain ⟨rfl, N42q, K42q, EI42, FI42⟩ := hQ42
        have N42 := Fr.app N31 N42q
        have Z42 : n0 ≤ T42.heap.size := Nat.le_trans Z41 K42q.1
        obtain ⟨cq43, kq43, q43a, q43b, q43c⟩ := isOf hZ rfl ((EI31.ext E41).keep K42q)
        obtain ⟨_, _, ⟨T43, L43, k43, n43⟩, -, X43, ⟨Lc43, hQ43, l43, y43, z43⟩, st43⟩ := X42.virtualBack hx (y := (⟨"com/example/firepick/firepick/IntegerItem", "equals", "(Ljava/lang/Object;)Z"⟩ : MethodName)) (z := (⟨"com/example/firepick/firepick/IntegerItem", "equals", "(Ljava/lang/Object;)Z"⟩ : MethodName)) hown (mvT hZ (hw _ (List.mem_of_getElem? (i := 16) rfl))) (mvT hZ (hw _ (List.mem_of_getElem? (i := 17) rfl))) (notFace_of_selects (args := #[]) (mvT hZ (hw _ (List.mem_of_getElem? (i := 19) rfl)))) (mvT hZ (hw _ (List.mem_of_getElem? (i := 19) rfl))) (mvT hZ (hw _ (List.mem_of_getElem? (i := 18) rfl))) (by decide) (backOf (W := 0) (rm4i l Z a0 hw [] b30 b41 q0 q0 T42.heap n0 Z42 ((FI31.ext E41).keep K42q (fun hq => ne_41_1 (List.mem_singleton.mp hq))) EI42 FI42) hZ (hw _ (List.mem_of_getElem? (i := 20) rfl)) (hw _ (List.mem_of_getElem? (i := 2) rfl)) (by decide) (by decide)) q43a q43c (g := (mkF m 141 #[.val (.long q0), .second, .val (.long q1), .second, .val (.int p2), .val (.int v1), .val (.long q0), .second, .val (.ref b30), .val (.ref b41), .val (.int (1 : Int32))] [(.ref b41), (.ref b30)])) rfl (by rw [hml]; rfl) (Steps.refl _) (argsL := [(.ref b41)]) (rest := []) (lenOf pd_2 rfl) rfl (by show 2 * 0 + _ ≤ _; exact Nat.le_of_eq rfl) (hb hby at_141) (fun _ _ => ⟨rfl, rfl, (by decide : 2 + 0 ≤ _), (by decide : 2 + 0 ≤ _)⟩)
        dsimp only [Pt.U, Pt.locs, Pt.cells, Pt.slots] at X43 l43 y43 z43 st43 hQ43
        subst l43 y43 z43
        obtain ⟨rfl, N43q, e43⟩ := hQ43
        have N43 := Fr.app N42 N43q
        have J146_44 : ∀ wj : Int32, wj = (if (if q0 = q0 then (1 : Int32) else (0 : Int32)) = (1 : Int32) then (1 : Int32) else (0 : Int32)) → ∀ target, Steps p.tables e below (T43.setTop (mkF m 154 #[.val (.long q0), .second, .val (.long q1), .second, .val (.int p2), .val (.int v1), .val (.long q0), .second, .val (.ref b30), .val (.ref b41), .val (.int (1 : Int32))] [(.int wj)])) target → Steps p.tables e below (T43.setTop (mkF m 146 #[.val (.long q0), .second, .val (.long q1), .second, .val (.int p2), .val (.int v1), .val (.long q0), .second, .val (.ref b30), .val (.ref b41), .val (.int (1 : Int32))] [(.int (1 : Int32)), (.int (if q0 = q0 then (1 : Int32) else (0 : Int32)))])) target := by
          intro wj hw0 target kt
          by_cases hj146 : (if q0 = q0 then (1 : Int32) else (0 : Int32)) = (1 : Int32)
          · rw [if_pos hj146] at hw0
            show Steps p.tables e below (T43.setTop (mkF m 146 #[.val (.long q0), .second, .val (.long q1), .second, .val (.int p2), .val (.int v1), .val (.long q0), .second, .val (.ref b30), .val (.ref b41), .val (.int (1 : Int32))] [(.int (1 : Int32)), (.int (if q0 = q0 then (1 : Int32) else (0 : Int32)))])) _
            refine XS.icmpNo X43.here hx rfl (hb hby at_146) rfl (teq hj146).2 ?_
            show Steps p.tables e below (T43.setTop (mkF m 149 #[.val (.long q0), .second, .val (.long q1), .second, .val (.int p2), .val (.int v1), .val (.long q0), .second, .val (.ref b30), .val (.ref b41), .val (.int (1 : Int32))] [])) _
            refine XS.iconst X43.here hx rfl (hb hby at_149) ?_
            show Steps p.tables e below (T43.setTop (mkF m 150 #[.val (.long q0), .second, .val (.long q1), .second, .val (.int p2), .val (.int v1), .val (.long q0), .second, .val (.ref b30), .val (.ref b41), .val (.int (1 : Int32))] [(.int (1 : Int32))])) _
            refine XS.goto X43.here hx rfl (pc0 := 150) (pc' := 154) rfl (hb hby at_150) (by decide) (by decide) ?_
            rw [hw0] at kt
            exact kt
          · rw [if_neg hj146] at hw0
            show Steps p.tables e below (T43.setTop (mkF m 146 #[.val (.long q0), .second, .val (.long q1), .second, .val (.int p2), .val (.int v1), .val (.long q0), .second, .val (.ref b30), .val (.ref b41), .val (.int (1 : Int32))] [(.int (1 : Int32)), (.int (if q0 = q0 then (1 : Int32) else (0 : Int32)))])) _
            refine XS.icmpYes X43.here hx rfl (pc0 := 146) (pc' := 153) rfl (hb hby at_146) rfl (feq hj146).2 (by decide) (by decide) ?_
            show Steps p.tables e below (T43.setTop (mkF m 153 #[.val (.long q0), .second, .val (.long q1), .second, .val (.int p2), .val (.int v1), .val (.long q0), .second, .val (.ref b30), .val (.ref b41), .val (.int (1 : Int32))] [])) _
            refine XS.iconst X43.here hx rfl (hb hby at_153) ?_
            rw [hw0] at kt
            exact kt
        obtain ⟨fs, hr, hrun, hended, hW, hsame⟩ := X43.leave (v := some (.int (nar .boolean (if (if q0 = q0 then (1 : Int32) else (0 : Int32)) = (1 : Int32) then (1 : Int32) else (0 : Int32))))) (fun h => by rw [Bd.returns] at h; cases h)
        refine ⟨_, _, ?_, hrun, hended, _, _, rfl, ?_, ⟨_, rfl⟩, hW, hsame.mono (by decide) (by decide)⟩
        · show Steps p.tables e below (T31.setTop (mkF m 72 #[.val (.long q0), .second, .val (.long q1), .second, .val (.int p2), .val (.int v1), .val (.long q0), .second, .val (.ref b30), .unset, .unset] [])) _
          refine st41 _ ?_
          show Steps p.tables e below (T41.setTop (mkF m 75 #[.val (.long q0), .second, .val (.long q1), .second, .val (.int p2), .val (.int v1), .val (.long q0), .second, .val (.ref b30), .unset, .unset] [(.ref b41)])) _
          refine XS.dup X41.here hx rfl (hb hby at_75) rfl rfl ?_
          show Steps p.tables e below (T41.setTop (mkF m 76 #[.val (.long q0), .second, .val (.long q1), .second, .val (.int p2), .val (.int v1), .val (.long q0), .second, .val (.ref b30), .unset, .unset] [(.ref b41), (.ref b41)])) _
          refine XS.lload X41.here hx rfl (hb hby at_76) rfl ?_
          show Steps p.tables e below (T41.setTop (mkF m 78 #[.val (.long q0), .second, .val (.long q1), .second, .val (.int p2), .val (.int v1), .val (.long q0), .second, .val (.ref b30), .unset, .unset] [(.long q0), (.ref b41), (.ref b41)])) _
          refine st42.trans ?_
          show Steps p.tables e below (T42.setTop (mkF m 81 #[.val (.long q0), .second, .val (.long q1), .second, .val (.int p2), .val (.int v1), .val (.long q0), .second, .val (.ref b30), .unset, .unset] [(.ref b41)])) _
          refine XS.astore X42.here hx rfl (hb hby at_81) rfl rfl (l' := #[.val (.long q0), .second, .val (.long q1), .second, .val (.int p2), .val (.int v1), .val (.long q0), .second, .val (.ref b30), .val (.ref b41), .unset]) rfl ?_
          show Steps p.tables e below (T42.setTop (mkF m 83 #[.val (.long q0), .second, .val (.long q1), .second, .val (.int p2), .val (.int v1), .val (.long q0), .second, .val (.ref b30), .val (.ref b41), .unset] [])) _
          refine XS.iconst X42.here hx rfl (hb hby at_83) ?_
          show Steps p.tables e below (T42.setTop (mkF m 84 #[.val (.long q0), .second, .val (.long q1), .second, .val (.int p2), .val (.int v1), .val (.long q0), .second, .val (.ref b30), .val (.ref b41), .unset] [(.int (1 : Int32))])) _
          refine XS.istore X42.here hx rfl (hb hby at_84) rfl (l' := #[.val (.long q0), .second, .val (.long q1), .second, .val (.int p2), .val (.int v1), .val (.long q0), .second, .val (.ref b30), .val (.ref b41), .val (.int (1 : Int32))]) rfl ?_
          show Steps p.tables e below (T42.setTop (mkF m 86 #[.val (.long q0), .second, .val (.long q1), .second, .val (.int p2), .val (.int v1), .val (.long q0), .second, .val (.ref b30), .val (.ref b41), .val (.int (1 : Int32))] [])) _
          refine XS.goto X42.here hx rfl (pc0 := 86) (pc' := 137) rfl (hb hby at_86) (by decide) (by decide) ?_
          show Steps p.tables e below (T42.setTop (mkF m 137 #[.val (.long q0), .second, .val (.long q1), .second, .val (.int p2), .val (.int v1), .val (.long q0), .second, .val (.ref b30), .val (.ref b41), .val (.int (1 : Int32))] [])) _
          refine XS.aload X42.here hx rfl (hb hby at_137) rfl rfl ?_
          show Steps p.tables e below (T42.setTop (mkF m 139 #[.val (.long q0), .second, .val (.long q1), .second, .val (.int p2), .val (.int v1), .val (.long q0), .second, .val (.ref b30), .val (.ref b41), .val (.int (1 : Int32))] [(.ref b30)])) _
          refine XS.aload X42.here hx rfl (hb hby at_139) rfl rfl ?_
          show Steps p.tables e below (T42.setTop (mkF m 141 #[.val (.long q0), .second, .val (.long q1), .second, .val (.int p2), .val (.int v1), .val (.long q0), .second, .val (.ref b30), .val (.ref b41), .val (.int (1 : Int32))] [(.ref b41), (.ref b30)])) _
          refine st43.trans ?_
          show Steps p.tables e below (T43.setTop (mkF m 144 #[.val (.long q0), .second, .val (.long q1), .second, .val (.int p2), .val (.int v1), .val (.long q0), .second, .val (.ref b30), .val (.ref b41), .val (.int (1 : Int32))] [(.int (if q0 = q0 then (1 : Int32) else (0 : Int32)))])) _
          refine XS.iload X43.here hx rfl (hb hby at_144) rfl ?_
          show Steps p.tables e below (T43.setTop (mkF m 146 #[.val (.long q0), .second, .val (.long q1), .second, .val (.int p2), .val (.int v1), .val (.long q0), .second, .val (.ref b30), .val (.ref b41), .val (.int (1 : Int32))] [(.int (1 : Int32)), (.int (if q0 = q0 then (1 : Int32) else (0 : Int32)))])) _
          refine J146_44 _ rfl _ ?_
          show Steps p.tables e below (T43.setTop (mkF m 154 #[.val (.long q0), .second, .val (.long q1), .second, .val (.int p2), .val (.int v1), .val (.long q0), .second, .val (.ref b30), .val (.ref b41), .val (.int (1 : Int32))] [(.int (if (if q0 = q0 then (1 : Int32) else (0 : Int32)) = (1 : Int32) then (1 : Int32) else (0 : Int32)))])) _
          exact retN X43 hx (t := .boolean) Bd.returns (by simp) (hb hby at_154) hr
        · show Q0 Z q0 q1 p2 aC clC h0 n0 _ T43.heap _
          rw [e43]
          exact ⟨by simp [own_sym, nar, eq_comm], N43⟩
      · have K : ∀ target, Steps p.tables e below (T31.setTop (mkF m 89 #[.val (.long q0), .second, .val (.long q1), .second, .val (.int p2), .val (.int v1), .val (.long q0), .second, .val (.ref b30), .unset, .unset] [])) target → Steps p.tables e below (T31.setTop (mkF m 69 #[.val (.long q0), .second, .val (.long q1), .second, .val (.int p2), .val (.int v1), .val (.long q0), .second, .val (.ref b30), .unset, .unset] [(.int (1 : Int32)), (.int v1)])) target := by
          intro target kt
          refine XS.icmpYes X31.here hx rfl (pc0 := 69) (pc' := 89) rfl (hb hby at_69) rfl (feq hc69_40).2 (by decide) (by decide) ?_
          exact kt
        refine Done.of ?_ K
        have K45 : ∀ target, Steps p.tables e below (T31.setTop (mkF m 92 #[.val (.long q0), .second, .val (.long q1), .second, .val (.int p2), .val (.int v1), .val (.long q0), .second, .val (.ref b30), .unset, .unset] [(.int (2 : Int32)), (.int v1)])) target → Steps p.tables e below (T31.setTop (mkF m 89 #[.val (.long q0), .second, .val (.long q1), .second, .val (.int p2), .val (.int v1), .val (.long q0), .second, .val (.ref b30), .unset, .unset] [])) target := by
          intro target kt
          show Steps p.tables e below (T31.setTop (mkF m 89 #[.val (.long q0), .second, .val (.long q1), .second, .val (.int p2), .val (.int v1), .val (.long q0), .second, .val (.ref b30), .unset, .unset] [])) _
          refine XS.iload X31.here hx rfl (hb hby at_89) rfl ?_
          show Steps p.tables e below (T31.setTop (mkF m 91 #[.val (.long q0), .second, .val (.long q1), .second, .val (.int p2), .val (.int v1), .val (.long q0), .second, .val (.ref b30), .unset, .unset] [(.int v1)])) _
          refine XS.iconst X31.here hx rfl (hb hby at_91) ?_
          exact kt
        refine Done.of ?_ K45
        by_cases hc92_46 : v1 = (2 : Int32)
        · have K : ∀ target, Steps p.tables e below (T31.setTop (mkF m 95 #[.val (.long q0), .second, .val (.long q1), .second, .val (.int p2), .val (.int v1), .val (.long q0), .second, .val (.ref b30), .unset, .unset] [])) target → Steps p.tables e below (T31.setTop (mkF m 92 #[.val (.long q0), .second, .val (.long q1), .second, .val (.int p2), .val (.int v1), .val (.long q0), .second, .val (.ref b30), .unset, .unset] [(.int (2 : Int32)), (.int v1)])) target := by
            intro target kt
            refine XS.icmpNo X31.here hx rfl (hb hby at_92) rfl (teq hc92_46).2 ?_
            exact kt
          refine Done.of ?_ K
          obtain ⟨T47, h47, X47, e47, E47, A47, D47, -, st47⟩ := newO X31 hx hZ hown (hw _ (List.mem_of_getElem? (i := 47) rfl)) (hw _ (List.mem_of_getElem? (i := 48) rfl)) (hw _ (List.mem_of_getElem? (i := 49) rfl)) rfl (g := (mkF m 95 #[.val (.long q0), .second, .val (.long q1), .second, .val (.int p2), .val (.int v1), .val (.long q0), .second, .val (.ref b30), .unset, .unset] [])) rfl (hb hby at_95) (by decide) (by decide)
          obtain ⟨b47, g47⟩ : ∃ z, z = T31.heap.size := ⟨_, rfl⟩
          rw [← g47] at A47 D47 st47
          have gnb47 : n0 ≤ b47 := Nat.le_trans Z31 (Nat.le_of_eq g47.symm)
          have Z47 : n0 ≤ h47.size := Nat.le_trans Z31 E47.1
          have ne_47_1 : b30 ≠ b47 := Nat.ne_of_lt (Nat.lt_of_lt_of_le EI31.lt (Nat.le_of_eq g47.symm))
          have F47_value : Fld Z h47 b47 "com/example/firepick/firepick/DecimalItem" "value" "D" (.double (0 : UInt64)) := D47 (Or.inr (hw _ (List.mem_of_getElem? (i := 55) rfl))) (ty := .double) (by decide)
          obtain ⟨_, _, ⟨T48, L48, k48, n48⟩, -, X48, ⟨Lc48, hQ48, l48, y48, z48⟩, st48⟩ := X47.specialBack hx (y := (⟨"com/example/firepick/firepick/DecimalItem", "<init>", "(D)V"⟩ : MethodName)) rfl hown (mvT hZ (hw _ (List.mem_of_getElem? (i := 50) rfl))) (mvT hZ (hw _ (List.mem_of_getElem? (i := 51) rfl))) (mvT hZ (hw _ (List.mem_of_getElem? (i := 52) rfl))) (by decide) (backOf (W := 1) (rm8 l Z a0 hw [] b47 (FP.i2d (q0.toInt32)) h47 n0 Z47 A47 gnb47 F47_value) hZ (hw _ (List.mem_of_getElem? (i := 52) rfl)) (hw _ (List.mem_of_getElem? (i := 49) rfl)) (by decide) (by decide)) (g := (mkF m 103 #[.val (.long q0), .second, .val (.long q1), .second, .val (.int p2), .val (.int v1), .val (.long q0), .second, .val (.ref b30), .unset, .unset] [(.double (FP.i2d (q0.toInt32))), (.ref b47), (.ref b47)])) rfl (by rw [hml]; rfl) (Steps.refl _) (a := b47) (argsL := [(.double (FP.i2d (q0.toInt32)))]) (rest := [(.ref b47)]) (lenOf pd_3 rfl) rfl (by show 2 * 0 + _ ≤ _; exact Nat.le_of_eq rfl) (hb hby at_103) (fun _ _ => ⟨rfl, e47, (by decide : 2 + 0 ≤ _), (by decide : 2 + 0 ≤ _)⟩)
          dsimp only [Pt.U, Pt.locs, Pt.cells, Pt.slots] at X48 l48 y48 z48 st48 hQ48
          subst l48 y48 z48
          obtain ⟨rfl, N48q, K48q, EI48, FI48⟩ := hQ48
          have N48 := Fr.app N31 N48q
          have Z48 : n0 ≤ T48.heap.size := Nat.le_trans Z47 K48q.1
          obtain ⟨cq49, kq49, q49a, q49b, q49c⟩ := isOf hZ rfl ((EI31.ext E47).keep K48q)
          obtain ⟨_, _, ⟨T49, L49, k49, n49⟩, -, X49, ⟨Lc49, hQ49, l49, y49, z49⟩, st49⟩ := X48.virtualBack hx (y := (⟨"com/example/firepick/firepick/IntegerItem", "equals", "(Ljava/lang/Object;)Z"⟩ : MethodName)) (z := (⟨"com/example/firepick/firepick/IntegerItem", "equals", "(Ljava/lang/Object;)Z"⟩ : MethodName)) hown (mvT hZ (hw _ (List.mem_of_getElem? (i := 16) rfl))) (mvT hZ (hw _ (List.mem_of_getElem? (i := 17) rfl))) (notFace_of_selects (args := #[]) (mvT hZ (hw _ (List.mem_of_getElem? (i := 19) rfl)))) (mvT hZ (hw _ (List.mem_of_getElem? (i := 19) rfl))) (mvT hZ (hw _ (List.mem_of_getElem? (i := 18) rfl))) (by decide) (backOf (W := 0) (rm4d l Z a0 hw [] b30 b47 q0 T48.heap n0 Z48 ((FI31.ext E47).keep K48q (fun hq => ne_47_1 (List.mem_singleton.mp hq))) EI48) hZ (hw _ (List.mem_of_getElem? (i := 20) rfl)) (hw _ (List.mem_of_getElem? (i := 2) rfl)) (by decide) (by decide)) q49a q49c (g := (mkF m 141 #[.val (.long q0), .second, .val (.long q1), .second, .val (.int p2), .val (.int v1), .val (.long q0), .second, .val (.ref b30), .val (.ref b47), .val (.int (0 : Int32))] [(.ref b47), (.ref b30)])) rfl (by rw [hml]; rfl) (Steps.refl _) (argsL := [(.ref b47)]) (rest := []) (lenOf pd_2 rfl) rfl (by show 2 * 0 + _ ≤ _; exact Nat.le_of_eq rfl) (hb hby at_141) (fun _ _ => ⟨rfl, rfl, (by decide : 2 + 0 ≤ _), (by decide : 2 + 0 ≤ _)⟩)
          dsimp only [Pt.U, Pt.locs, Pt.cells, Pt.slots] at X49 l49 y49 z49 st49 hQ49
          subst l49 y49 z49
          obtain ⟨rfl, N49q, e49⟩ := hQ49
          have N49 := Fr.app N48 N49q
          obtain ⟨fs, hr, hrun, hended, hW, hsame⟩ := X49.leave (v := some (.int (1 : Int32))) (fun h => by rw [Bd.returns] at h; cases h)
          refine ⟨_, _, ?_, hrun, hended, _, _, rfl, ?_, ⟨_, rfl⟩, hW, hsame.mono (by decide) (by decide)⟩
          · show Steps p.tables e below (T31.setTop (mkF m 95 #[.val (.long q0), .second, .val (.long q1), .second, .val (.int p2), .val (.int v1), .val (.long q0), .second, .val (.ref b30), .unset, .unset] [])) _
            refine st47 _ ?_
            show Steps p.tables e below (T47.setTop (mkF m 98 #[.val (.long q0), .second, .val (.long q1), .second, .val (.int p2), .val (.int v1), .val (.long q0), .second, .val (.ref b30), .unset, .unset] [(.ref b47)])) _
            refine XS.dup X47.here hx rfl (hb hby at_98) rfl rfl ?_
            show Steps p.tables e below (T47.setTop (mkF m 99 #[.val (.long q0), .second, .val (.long q1), .second, .val (.int p2), .val (.int v1), .val (.long q0), .second, .val (.ref b30), .unset, .unset] [(.ref b47), (.ref b47)])) _
            refine XS.lload X47.here hx rfl (hb hby at_99) rfl ?_
            show Steps p.tables e below (T47.setTop (mkF m 101 #[.val (.long q0), .second, .val (.long q1), .second, .val (.int p2), .val (.int v1), .val (.long q0), .second, .val (.ref b30), .unset, .unset] [(.long q0), (.ref b47), (.ref b47)])) _
            refine XS.l2i X47.here hx rfl (hb hby at_101) rfl ?_
            show Steps p.tables e below (T47.setTop (mkF m 102 #[.val (.long q0), .second, .val (.long q1), .second, .val (.int p2), .val (.int v1), .val (.long q0), .second, .val (.ref b30), .unset, .unset] [(.int (q0.toInt32)), (.ref b47), (.ref b47)])) _
            refine XS.i2dS X47.here hx rfl (hb hby at_102) rfl rfl ?_
            show Steps p.tables e below (T47.setTop (mkF m 103 #[.val (.long q0), .second, .val (.long q1), .second, .val (.int p2), .val (.int v1), .val (.long q0), .second, .val (.ref b30), .unset, .unset] [(.double (FP.i2d (q0.toInt32))), (.ref b47), (.ref b47)])) _
            refine st48.trans ?_
            show Steps p.tables e below (T48.setTop (mkF m 106 #[.val (.long q0), .second, .val (.long q1), .second, .val (.int p2), .val (.int v1), .val (.long q0), .second, .val (.ref b30), .unset, .unset] [(.ref b47)])) _
            refine XS.astore X48.here hx rfl (hb hby at_106) rfl rfl (l' := #[.val (.long q0), .second, .val (.long q1), .second, .val (.int p2), .val (.int v1), .val (.long q0), .second, .val (.ref b30), .val (.ref b47), .unset]) rfl ?_
            show Steps p.tables e below (T48.setTop (mkF m 108 #[.val (.long q0), .second, .val (.long q1), .second, .val (.int p2), .val (.int v1), .val (.long q0), .second, .val (.ref b30), .val (.ref b47), .unset] [])) _
            refine XS.iconst X48.here hx rfl (hb hby at_108) ?_
            show Steps p.tables e below (T48.setTop (mkF m 109 #[.val (.long q0), .second, .val (.long q1), .second, .val (.int p2), .val (.int v1), .val (.long q0), .second, .val (.ref b30), .val (.ref b47), .unset] [(.int (0 : Int32))])) _
            refine XS.istore X48.here hx rfl (hb hby at_109) rfl (l' := #[.val (.long q0), .second, .val (.long q1), .second, .val (.int p2), .val (.int v1), .val (.long q0), .second, .val (.ref b30), .val (.ref b47), .val (.int (0 : Int32))]) rfl ?_
            show Steps p.tables e below (T48.setTop (mkF m 111 #[.val (.long q0), .second, .val (.long q1), .second, .val (.int p2), .val (.int v1), .val (.long q0), .second, .val (.ref b30), .val (.ref b47), .val (.int (0 : Int32))] [])) _
            refine XS.goto X48.here hx rfl (pc0 := 111) (pc' := 137) rfl (hb hby at_111) (by decide) (by decide) ?_
            show Steps p.tables e below (T48.setTop (mkF m 137 #[.val (.long q0), .second, .val (.long q1), .second, .val (.int p2), .val (.int v1), .val (.long q0), .second, .val (.ref b30), .val (.ref b47), .val (.int (0 : Int32))] [])) _
            refine XS.aload X48.here hx rfl (hb hby at_137) rfl rfl ?_
            show Steps p.tables e below (T48.setTop (mkF m 139 #[.val (.long q0), .second, .val (.long q1), .second, .val (.int p2), .val (.int v1), .val (.long q0), .second, .val (.ref b30), .val (.ref b47), .val (.int (0 : Int32))] [(.ref b30)])) _
            refine XS.aload X48.here hx rfl (hb hby at_139) rfl rfl ?_
            show Steps p.tables e below (T48.setTop (mkF m 141 #[.val (.long q0), .second, .val (.long q1), .second, .val (.int p2), .val (.int v1), .val (.long q0), .second, .val (.ref b30), .val (.ref b47), .val (.int (0 : Int32))] [(.ref b47), (.ref b30)])) _
            refine st49.trans ?_
            show Steps p.tables e below (T49.setTop (mkF m 144 #[.val (.long q0), .second, .val (.long q1), .second, .val (.int p2), .val (.int v1), .val (.long q0), .second, .val (.ref b30), .val (.ref b47), .val (.int (0 : Int32))] [(.int (0 : Int32))])) _
            refine XS.iload X49.here hx rfl (hb hby at_144) rfl ?_
            show Steps p.tables e below (T49.setTop (mkF m 146 #[.val (.long q0), .second, .val (.long q1), .second, .val (.int p2), .val (.int v1), .val (.long q0), .second, .val (.ref b30), .val (.ref b47), .val (.int (0 : Int32))] [(.int (0 : Int32)), (.int (0 : Int32))])) _
            refine XS.icmpNo X49.here hx rfl (hb hby at_146) rfl (teq (rfl : (0 : Int32) = (0 : Int32))).2 ?_
            show Steps p.tables e below (T49.setTop (mkF m 149 #[.val (.long q0), .second, .val (.long q1), .second, .val (.int p2), .val (.int v1), .val (.long q0), .second, .val (.ref b30), .val (.ref b47), .val (.int (0 : Int32))] [])) _
            refine XS.iconst X49.here hx rfl (hb hby at_149) ?_
            show Steps p.tables e below (T49.setTop (mkF m 150 #[.val (.long q0), .second, .val (.long q1), .second, .val (.int p2), .val (.int v1), .val (.long q0), .second, .val (.ref b30), .val (.ref b47), .val (.int (0 : Int32))] [(.int (1 : Int32))])) _
            refine XS.goto X49.here hx rfl (pc0 := 150) (pc' := 154) rfl (hb hby at_150) (by decide) (by decide) ?_
            show Steps p.tables e below (T49.setTop (mkF m 154 #[.val (.long q0), .second, .val (.long q1), .second, .val (.int p2), .val (.int v1), .val (.long q0), .second, .val (.ref b30), .val (.ref b47), .val (.int (0 : Int32))] [(.int (1 : Int32))])) _
            exact retN X49 hx (t := .boolean) Bd.returns (by simp) (hb hby at_154) hr
          · show Q0 Z q0 q1 p2 aC clC h0 n0 _ T49.heap _
            rw [e49]
            exact ⟨rfl, N49⟩
        · have K : ∀ target, Steps p.tables e below (T31.setTop (mkF m 114 #[.val (.long q0), .second, .val (.long q1), .second, .val (.int p2), .val (.int v1), .val (.long q0), .second, .val (.ref b30), .unset, .unset] [])) target → Steps p.tables e below (T31.setTop (mkF m 92 #[.val (.long q0), .second, .val (.long q1), .second, .val (.int p2), .val (.int v1), .val (.long q0), .second, .val (.ref b30), .unset, .unset] [(.int (2 : Int32)), (.int v1)])) target := by
            intro target kt
            refine XS.icmpYes X31.here hx rfl (pc0 := 92) (pc' := 114) rfl (hb hby at_92) rfl (feq hc92_46).2 (by decide) (by decide) ?_
            exact kt
          refine Done.of ?_ K
          have K50 : ∀ target, Steps p.tables e below (T31.setTop (mkF m 118 #[.val (.long q0), .second, .val (.long q1), .second, .val (.int p2), .val (.int v1), .val (.long q0), .second, .val (.ref b30), .unset, .unset] [(.int (p2 &&& (4 : Int32)))])) target → Steps p.tables e below (T31.setTop (mkF m 114 #[.val (.long q0), .second, .val (.long q1), .second, .val (.int p2), .val (.int v1), .val (.long q0), .second, .val (.ref b30), .unset, .unset] [])) target := by
            intro target kt
            show Steps p.tables e below (T31.setTop (mkF m 114 #[.val (.long q0), .second, .val (.long q1), .second, .val (.int p2), .val (.int v1), .val (.long q0), .second, .val (.ref b30), .unset, .unset] [])) _
            refine XS.iload X31.here hx rfl (hb hby at_114) rfl ?_
            show Steps p.tables e below (T31.setTop (mkF m 116 #[.val (.long q0), .second, .val (.long q1), .second, .val (.int p2), .val (.int v1), .val (.long q0), .second, .val (.ref b30), .unset, .unset] [(.int p2)])) _
            refine XS.iconst X31.here hx rfl (hb hby at_116) ?_
            show Steps p.tables e below (T31.setTop (mkF m 117 #[.val (.long q0), .second, .val (.long q1), .second, .val (.int p2), .val (.int v1), .val (.long q0), .second, .val (.ref b30), .unset, .unset] [(.int (4 : Int32)), (.int p2)])) _
            refine XS.iand X31.here hx rfl (hb hby at_117) rfl ?_
            exact kt
          refine Done.of ?_ K50
          by_cases hc118_51 : (p2 &&& (4 : Int32)) = (0 : Int32)
          · have K : ∀ target, Steps p.tables e below (T31.setTop (mkF m 127 #[.val (.long q0), .second, .val (.long q1), .second, .val (.int p2), .val (.int v1), .val (.long q0), .second, .val (.ref b30), .unset, .unset] [])) target → Steps p.tables e below (T31.setTop (mkF m 118 #[.val (.long q0), .second, .val (.long q1), .second, .val (.int p2), .val (.int v1), .val (.long q0), .second, .val (.ref b30), .unset, .unset] [(.int (p2 &&& (4 : Int32)))])) target := by
              intro target kt
              refine XS.ifYes X31.here hx rfl (pc0 := 118) (pc' := 127) rfl (hb hby at_118) rfl ((if0 _ _).trans (teq hc118_51).1) (by decide) (by decide) ?_
              exact kt
            refine Done.of ?_ K
            obtain ⟨_, _, ⟨T52, L52, k52, n52⟩, -, X52, ⟨Lc52, hQ52, l52, y52, z52⟩, st52⟩ := Jvm.LawKit.callS X31 hx (y := (⟨"java/lang/Long", "valueOf", "(J)Ljava/lang/Long;"⟩ : MethodName)) hown (mvT hZ (hw _ (List.mem_of_getElem? (i := 23) rfl))) (mvT hZ (hw _ (List.mem_of_getElem? (i := 24) rfl))) (mvT hZ (hw _ (List.mem_of_getElem? (i := 25) rfl))) (mvT hZ (hw _ (List.mem_of_getElem? (i := 26) rfl))) (by decide) (backOf (W := 0) (rm5 l Z a0 hw [] q0 aC clC T31.heap n0 Z31 (SC.ext ((OZ.ext E30).keep K31q (allS gnb30 all0)).2) HB ((OZ.ext E30).keep K31q (allS gnb30 all0))) hZ (hw _ (List.mem_of_getElem? (i := 26) rfl)) (hw _ (List.mem_of_getElem? (i := 25) rfl)) (by decide) (by decide)) (g := (mkF m 129 #[.val (.long q0), .second, .val (.long q1), .second, .val (.int p2), .val (.int v1), .val (.long q0), .second, .val (.ref b30), .unset, .unset] [(.long q0)])) rfl (by rw [hml]; rfl) (argsL := [(.long q0)]) (rest := []) (lenOf pd_4 rfl) rfl (by show 2 * 0 + _ ≤ _; exact Nat.le_of_eq rfl) (hb hby at_129) (fun _ _ => ⟨rfl, rfl, (by decide : 1 + 1 ≤ _), (by decide : 1 + 1 ≤ _)⟩)
            dsimp only [Pt.U, Pt.locs, Pt.cells, Pt.slots] at X52 l52 y52 z52 st52 hQ52
            subst l52 y52 z52
            obtain ⟨b52, rfl, N52q, K52q, EI52⟩ := hQ52
            have N52 := Fr.app N31 N52q
            have Z52 : n0 ≤ T52.heap.size := Nat.le_trans Z31 K52q.1
            obtain ⟨cq53, kq53, q53a, q53b, q53c⟩ := isOf hZ rfl (EI31.keep K52q)
            obtain ⟨_, _, ⟨T53, L53, k53, n53⟩, -, X53, ⟨Lc53, hQ53, l53, y53, z53⟩, st53⟩ := X52.virtualBack hx (y := (⟨"com/example/firepick/firepick/IntegerItem", "equals", "(Ljava/lang/Object;)Z"⟩ : MethodName)) (z := (⟨"com/example/firepick/firepick/IntegerItem", "equals", "(Ljava/lang/Object;)Z"⟩ : MethodName)) hown (mvT hZ (hw _ (List.mem_of_getElem? (i := 16) rfl))) (mvT hZ (hw _ (List.mem_of_getElem? (i := 17) rfl))) (notFace_of_selects (args := #[]) (mvT hZ (hw _ (List.mem_of_getElem? (i := 19) rfl)))) (mvT hZ (hw _ (List.mem_of_getElem? (i := 19) rfl))) (mvT hZ (hw _ (List.mem_of_getElem? (i := 18) rfl))) (by decide) (backOf (W := 0) (rm4l l Z a0 hw [] b30 b52 q0 T52.heap n0 Z52 (FI31.keep K52q (by simp)) EI52) hZ (hw _ (List.mem_of_getElem? (i := 20) rfl)) (hw _ (List.mem_of_getElem? (i := 2) rfl)) (by decide) (by decide)) q53a q53c (g := (mkF m 141 #[.val (.long q0), .second, .val (.long q1), .second, .val (.int p2), .val (.int v1), .val (.long q0), .second, .val (.ref b30), .val (.ref b52), .val (.int (0 : Int32))] [(.ref b52), (.ref b30)])) rfl (by rw [hml]; rfl) (Steps.refl _) (argsL := [(.ref b52)]) (rest := []) (lenOf pd_2 rfl) rfl (by show 2 * 0 + _ ≤ _; exact Nat.le_of_eq rfl) (hb hby at_141) (fun _ _ => ⟨rfl, rfl, (by decide : 2 + 0 ≤ _), (by decide : 2 + 0 ≤ _)⟩)
            dsimp only [Pt.U, Pt.locs, Pt.cells, Pt.slots] at X53 l53 y53 z53 st53 hQ53
            subst l53 y53 z53
            obtain ⟨rfl, N53q, e53⟩ := hQ53
            have N53 := Fr.app N52 N53q
            obtain ⟨fs, hr, hrun, hended, hW, hsame⟩ := X53.leave (v := some (.int (1 : Int32))) (fun h => by rw [Bd.returns] at h; cases h)
            refine ⟨_, _, ?_, hrun, hended, _, _, rfl, ?_, ⟨_, rfl⟩, hW, hsame.mono (by decide) (by decide)⟩
            · show Steps p.tables e below (T31.setTop (mkF m 127 #[.val (.long q0), .second, .val (.long q1), .second, .val (.int p2), .val (.int v1), .val (.long q0), .second, .val (.ref b30), .unset, .unset] [])) _
              refine XS.lload X31.here hx rfl (hb hby at_127) rfl ?_
              show Steps p.tables e below (T31.setTop (mkF m 129 #[.val (.long q0), .second, .val (.long q1), .second, .val (.int p2), .val (.int v1), .val (.long q0), .second, .val (.ref b30), .unset, .unset] [(.long q0)])) _
              refine st52 _ ?_
              show Steps p.tables e below (T52.setTop (mkF m 132 #[.val (.long q0), .second, .val (.long q1), .second, .val (.int p2), .val (.int v1), .val (.long q0), .second, .val (.ref b30), .unset, .unset] [(.ref b52)])) _
              refine XS.astore X52.here hx rfl (hb hby at_132) rfl rfl (l' := #[.val (.long q0), .second, .val (.long q1), .second, .val (.int p2), .val (.int v1), .val (.long q0), .second, .val (.ref b30), .val (.ref b52), .unset]) rfl ?_
              show Steps p.tables e below (T52.setTop (mkF m 134 #[.val (.long q0), .second, .val (.long q1), .second, .val (.int p2), .val (.int v1), .val (.long q0), .second, .val (.ref b30), .val (.ref b52), .unset] [])) _
              refine XS.iconst X52.here hx rfl (hb hby at_134) ?_
              show Steps p.tables e below (T52.setTop (mkF m 135 #[.val (.long q0), .second, .val (.long q1), .second, .val (.int p2), .val (.int v1), .val (.long q0), .second, .val (.ref b30), .val (.ref b52), .unset] [(.int (0 : Int32))])) _
              refine XS.istore X52.here hx rfl (hb hby at_135) rfl (l' := #[.val (.long q0), .second, .val (.long q1), .second, .val (.int p2), .val (.int v1), .val (.long q0), .second, .val (.ref b30), .val (.ref b52), .val (.int (0 : Int32))]) rfl ?_
              show Steps p.tables e below (T52.setTop (mkF m 137 #[.val (.long q0), .second, .val (.long q1), .second, .val (.int p2), .val (.int v1), .val (.long q0), .second, .val (.ref b30), .val (.ref b52), .val (.int (0 : Int32))] [])) _
              refine XS.aload X52.here hx rfl (hb hby at_137) rfl rfl ?_
              show Steps p.tables e below (T52.setTop (mkF m 139 #[.val (.long q0), .second, .val (.long q1), .second, .val (.int p2), .val (.int v1), .val (.long q0), .second, .val (.ref b30), .val (.ref b52), .val (.int (0 : Int32))] [(.ref b30)])) _
              refine XS.aload X52.here hx rfl (hb hby at_139) rfl rfl ?_
              show Steps p.tables e below (T52.setTop (mkF m 141 #[.val (.long q0), .second, .val (.long q1), .second, .val (.int p2), .val (.int v1), .val (.long q0), .second, .val (.ref b30), .val (.ref b52), .val (.int (0 : Int32))] [(.ref b52), (.ref b30)])) _
              refine st53.trans ?_
              show Steps p.tables e below (T53.setTop (mkF m 144 #[.val (.long q0), .second, .val (.long q1), .second, .val (.int p2), .val (.int v1), .val (.long q0), .second, .val (.ref b30), .val (.ref b52), .val (.int (0 : Int32))] [(.int (0 : Int32))])) _
              refine XS.iload X53.here hx rfl (hb hby at_144) rfl ?_
              show Steps p.tables e below (T53.setTop (mkF m 146 #[.val (.long q0), .second, .val (.long q1), .second, .val (.int p2), .val (.int v1), .val (.long q0), .second, .val (.ref b30), .val (.ref b52), .val (.int (0 : Int32))] [(.int (0 : Int32)), (.int (0 : Int32))])) _
              refine XS.icmpNo X53.here hx rfl (hb hby at_146) rfl (teq (rfl : (0 : Int32) = (0 : Int32))).2 ?_
              show Steps p.tables e below (T53.setTop (mkF m 149 #[.val (.long q0), .second, .val (.long q1), .second, .val (.int p2), .val (.int v1), .val (.long q0), .second, .val (.ref b30), .val (.ref b52), .val (.int (0 : Int32))] [])) _
              refine XS.iconst X53.here hx rfl (hb hby at_149) ?_
              show Steps p.tables e below (T53.setTop (mkF m 150 #[.val (.long q0), .second, .val (.long q1), .second, .val (.int p2), .val (.int v1), .val (.long q0), .second, .val (.ref b30), .val (.ref b52), .val (.int (0 : Int32))] [(.int (1 : Int32))])) _
              refine XS.goto X53.here hx rfl (pc0 := 150) (pc' := 154) rfl (hb hby at_150) (by decide) (by decide) ?_
              show Steps p.tables e below (T53.setTop (mkF m 154 #[.val (.long q0), .second, .val (.long q1), .second, .val (.int p2), .val (.int v1), .val (.long q0), .second, .val (.ref b30), .val (.ref b52), .val (.int (0 : Int32))] [(.int (1 : Int32))])) _
              exact retN X53 hx (t := .boolean) Bd.returns (by simp) (hb hby at_154) hr
            · show Q0 Z q0 q1 p2 aC clC h0 n0 _ T53.heap _
              rw [e53]
              exact ⟨rfl, N53⟩
          · have K : ∀ target, Steps p.tables e below (T31.setTop (mkF m 121 #[.val (.long q0), .second, .val (.long q1), .second, .val (.int p2), .val (.int v1), .val (.long q0), .second, .val (.ref b30), .unset, .unset] [])) target → Steps p.tables e below (T31.setTop (mkF m 118 #[.val (.long q0), .second, .val (.long q1), .second, .val (.int p2), .val (.int v1), .val (.long q0), .second, .val (.ref b30), .unset, .unset] [(.int (p2 &&& (4 : Int32)))])) target := by
              intro target kt
              refine XS.ifNo X31.here hx rfl (hb hby at_118) rfl ((if0 _ _).trans (feq hc118_51).1) ?_
              exact kt
            refine Done.of ?_ K
            obtain ⟨cq54, kq54, q54a, q54b, q54c⟩ := isOf hZ rfl EI31
            obtain ⟨_, _, ⟨T54, L54, k54, n54⟩, -, X54, ⟨Lc54, hQ54, l54, y54, z54⟩, st54⟩ := X31.virtualBack hx (y := (⟨"com/example/firepick/firepick/IntegerItem", "equals", "(Ljava/lang/Object;)Z"⟩ : MethodName)) (z := (⟨"com/example/firepick/firepick/IntegerItem", "equals", "(Ljava/lang/Object;)Z"⟩ : MethodName)) hown (mvT hZ (hw _ (List.mem_of_getElem? (i := 16) rfl))) (mvT hZ (hw _ (List.mem_of_getElem? (i := 17) rfl))) (notFace_of_selects (args := #[]) (mvT hZ (hw _ (List.mem_of_getElem? (i := 19) rfl)))) (mvT hZ (hw _ (List.mem_of_getElem? (i := 19) rfl))) (mvT hZ (hw _ (List.mem_of_getElem? (i := 18) rfl))) (by decide) (backOf (W := 0) (rm4n l Z a0 hw [] b30 q0 T31.heap n0 Z31 FI31) hZ (hw _ (List.mem_of_getElem? (i := 20) rfl)) (hw _ (List.mem_of_getElem? (i := 2) rfl)) (by decide) (by decide)) q54a q54c (g := (mkF m 141 #[.val (.long q0), .second, .val (.long q1), .second, .val (.int p2), .val (.int v1), .val (.long q0), .second, .val (.ref b30), .val .null, .val (.int (0 : Int32))] [.null, (.ref b30)])) rfl (by rw [hml]; rfl) (Steps.refl _) (argsL := [.null]) (rest := []) (lenOf pd_2 rfl) rfl (by show 2 * 0 + _ ≤ _; exact Nat.le_of_eq rfl) (hb hby at_141) (fun _ _ => ⟨rfl, rfl, (by decide : 1 + 0 ≤ _), (by decide : 1 + 0 ≤ _)⟩)
            dsimp only [Pt.U, Pt.locs, Pt.cells, Pt.slots] at X54 l54 y54 z54 st54 hQ54
            subst l54 y54 z54
            obtain ⟨rfl, N54q, e54⟩ := hQ54
            have N54 := Fr.app N31 N54q
            obtain ⟨fs, hr, hrun, hended, hW, hsame⟩ := X54.leave (v := some (.int (1 : Int32))) (fun h => by rw [Bd.returns] at h; cases h)
            refine ⟨_, _, ?_, hrun, hended, _, _, rfl, ?_, ⟨_, rfl⟩, hW, hsame.mono (by decide) (by decide)⟩
            · show Steps p.tables e below (T31.setTop (mkF m 121 #[.val (.long q0), .second, .val (.long q1), .second, .val (.int p2), .val (.int v1), .val (.long q0), .second, .val (.ref b30), .unset, .unset] [])) _
              refine XS.aconstNull X31.here hx rfl (hb hby at_121) ?_
              show Steps p.tables e below (T31.setTop (mkF m 122 #[.val (.long q0), .second, .val (.long q1), .second, .val (.int p2), .val (.int v1), .val (.long q0), .second, .val (.ref b30), .unset, .unset] [.null])) _
              refine XS.astore X31.here hx rfl (hb hby at_122) rfl rfl (l' := #[.val (.long q0), .second, .val (.long q1), .second, .val (.int p2), .val (.int v1), .val (.long q0), .second, .val (.ref b30), .val .null, .unset]) rfl ?_
              show Steps p.tables e below (T31.setTop (mkF m 124 #[.val (.long q0), .second, .val (.long q1), .second, .val (.int p2), .val (.int v1), .val (.long q0), .second, .val (.ref b30), .val .null, .unset] [])) _
              refine XS.goto X31.here hx rfl (pc0 := 124) (pc' := 134) rfl (hb hby at_124) (by decide) (by decide) ?_
              show Steps p.tables e below (T31.setTop (mkF m 134 #[.val (.long q0), .second, .val (.long q1), .second, .val (.int p2), .val (.int v1), .val (.long q0), .second, .val (.ref b30), .val .null, .unset] [])) _
              refine XS.iconst X31.here hx rfl (hb hby at_134) ?_
              show Steps p.tables e below (T31.setTop (mkF m 135 #[.val (.long q0), .second, .val (.long q1), .second, .val (.int p2), .val (.int v1), .val (.long q0), .second, .val (.ref b30), .val .null, .unset] [(.int (0 : Int32))])) _
              refine XS.istore X31.here hx rfl (hb hby at_135) rfl (l' := #[.val (.long q0), .second, .val (.long q1), .second, .val (.int p2), .val (.int v1), .val (.long q0), .second, .val (.ref b30), .val .null, .val (.int (0 : Int32))]) rfl ?_
              show Steps p.tables e below (T31.setTop (mkF m 137 #[.val (.long q0), .second, .val (.long q1), .second, .val (.int p2), .val (.int v1), .val (.long q0), .second, .val (.ref b30), .val .null, .val (.int (0 : Int32))] [])) _
              refine XS.aload X31.here hx rfl (hb hby at_137) rfl rfl ?_
              show Steps p.tables e below (T31.setTop (mkF m 139 #[.val (.long q0), .second, .val (.long q1), .second, .val (.int p2), .val (.int v1), .val (.long q0), .second, .val (.ref b30), .val .null, .val (.int (0 : Int32))] [(.ref b30)])) _
              refine XS.aload X31.here hx rfl (hb hby at_139) rfl rfl ?_
              show Steps p.tables e below (T31.setTop (mkF m 141 #[.val (.long q0), .second, .val (.long q1), .second, .val (.int p2), .val (.int v1), .val (.long q0), .second, .val (.ref b30), .val .null, .val (.int (0 : Int32))] [.null, (.ref b30)])) _
              refine st54.trans ?_
              show Steps p.tables e below (T54.setTop (mkF m 144 #[.val (.long q0), .second, .val (.long q1), .second, .val (.int p2), .val (.int v1), .val (.long q0), .second, .val (.ref b30), .val .null, .val (.int (0 : Int32))] [(.int (0 : Int32))])) _
              refine XS.iload X54.here hx rfl (hb hby at_144) rfl ?_
              show Steps p.tables e below (T54.setTop (mkF m 146 #[.val (.long q0), .second, .val (.long q1), .second, .val (.int p2), .val (.int v1), .val (.long q0), .second, .val (.ref b30), .val .null, .val (.int (0 : Int32))] [(.int (0 : Int32)), (.int (0 : Int32))])) _
              refine XS.icmpNo X54.here hx rfl (hb hby at_146) rfl (teq (rfl : (0 : Int32) = (0 : Int32))).2 ?_
              show Steps p.tables e below (T54.setTop (mkF m 149 #[.val (.long q0), .second, .val (.long q1), .second, .val (.int p2), .val (.int v1), .val (.long q0), .second, .val (.ref b30), .val .null, .val (.int (0 : Int32))] [])) _
              refine XS.iconst X54.here hx rfl (hb hby at_149) ?_
              show Steps p.tables e below (T54.setTop (mkF m 150 #[.val (.long q0), .second, .val (.long q1), .second, .val (.int p2), .val (.int v1), .val (.long q0), .second, .val (.ref b30), .val .null, .val (.int (0 : Int32))] [(.int (1 : Int32))])) _
              refine XS.goto X54.here hx rfl (pc0 := 150) (pc' := 154) rfl (hb hby at_150) (by decide) (by decide) ?_
              show Steps p.tables e below (T54.setTop (mkF m 154 #[.val (.long q0), .second, .val (.long q1), .second, .val (.int p2), .val (.int v1), .val (.long q0), .second, .val (.ref b30), .val .null, .val (.int (0 : Int32))] [(.int (1 : Int32))])) _
              exact retN X54 hx (t := .boolean) Bd.returns (by simp) (hb hby at_154) hr
            · show Q0 Z q0 q1 p2 aC clC h0 n0 _ T54.heap _
              rw [e54]
              exact ⟨rfl, N54⟩

theorem own_cache {Z : State} {args : Array Value} {a : Addr} {c : Cell} {t : Term} (hs : ∀ idx, t.eval args Z none idx Z = t.eval args Z none [] Z) (et : t.eval args Z none [] Z = some (.ref a)) (A : Arr Z Z.heap a c (.object "java/lang/Long")) (hl : (Term.length t).eval args Z none [] Z = some (.int (256 : Int32)))
    (h : (Jvm.Cond.all t (.and (.exactly (.elem t (.index 0)) "java/lang/Long") (.eq (.field (.elem t (.index 0)) "java/lang/Long" "value" "J") (.op1 .i2l (.sub (.index 0) (.int (128 : Int32))))))).value args Z none Z [] = some true) :
    Bxs Z a c "java/lang/Long" "J" (256 : Int32) (fun j => .long (j - (128 : Int32)).toInt64) := by
  have ha := A.fin (U := Z) (Vm.Alike.refl _)
  have q : c.slots.size < 2 ^ 31 ∧ c.slots.size.toInt32 = (256 : Int32) := by
    by_cases hq : c.slots.size < 2 ^ 31
    · refine ⟨hq, ?_⟩
      rw [len_f et ha hq] at hl
      exact Value.int.inj (Option.some.inj hl)
    · exfalso
      simp [Term.eval, et, ha, hq] at hl
  refine Bxs.start (fun idx => (hs idx).trans et) A q.1 q.2 (by decide) h (fun X j hj hv => ?_)
  refine eqv_l (i2l_at ?_) hv
  have e1 := idx_at (args := args) (first := Z) (s := Z) (o := none) hj
  have e2 := (back32 hj).1
  simp only [Term.eval] at e1 ⊢
  simp [e1, e2]
set_option maxRecDepth 65536 in
set_option maxHeartbeats 40000000 in
theorem comes_1 {Post : Tables → Env → Array Value → State → Outcome → State → Prop} (hpost : ∀ tb e args s v u, (limb_1_1.after args s (.returned v) u = true ∧ limb_1_2.after args s (.returned v) u = true ∧ True) → FrameEnd s (.returned v) u (Jvm.fieldLocs frame_1_writes args s ++ Jvm.arrayLocs frame_1_arrays args s ++ Jvm.staticLocs frame_1_statics s) 16 128 → Post tb e args s (.returned v) u) :
    ArmFor flags0 classFile x code maxLocals ret World_1 tables_1 room_1 Calls_1 rest_1 Pre_1 Post := by
  intro l hfl _ _ p e ha hc hk s m args below hf hA hF happ hP
  obtain ⟨hcalls, hrest, hpre⟩ := hP
  obtain ⟨-, -, -, hnamed, -, -, -, hat⟩ := (Spec.applies_iff hf).mp happ
  obtain ⟨hg, hn⟩ := and_e (Cond.before_iff.mp (show (Jvm.Cond.and given_1 narrow_1).before args s = true from hpre))
  obtain ⟨g1, g2⟩ := and_e hg
  obtain ⟨g3, g4⟩ := and_e g2
  obtain ⟨g5, g6⟩ := and_e g4
  obtain ⟨w0, w1, w2, rfl⟩ : ∃ w0 w1 w2 : Value, args = #[w0, w1, w2] := by
    have hs : args.size = 3 := by simpa [Cond.value, given_1] using g1
    obtain ⟨L⟩ := args
    match L, hs with
    | [w0, w1, w2], _ => exact ⟨w0, w1, w2, rfl⟩
  have hw := fun d (hd : d ∈ tables_1) => atoms_spec (ws := Jvm.Cond.code x code maxLocals ret :: tables_1) hat d (List.mem_cons_of_mem _ hd)
  have hfit : Fit s := fun {y c} hc i hi => by
    obtain ⟨ha, rfl⟩ := Array.getElem?_eq_some_iff.mp hc
    have q := List.all_eq_true.mp ((Array.all_eq_true_iff_forall_mem.mp hF) _ (Array.getElem_mem ha)) i (List.mem_range.mpr hi)
    simpa [Array.getElem?_eq_getElem hi] using q
  obtain ⟨hsets, hown0⟩ := atoms_of _ (rest_1_c_eq ▸ (show rest_1_c.before _ s = true from hrest))
  have hr0 := Cond.before_iff.mp hown0
  obtain ⟨i0, ei0⟩ := isL_v g3
  obtain rfl : w0 = (.long i0) := Option.some.inj ei0
  obtain ⟨i1, ei1⟩ := isL_v g5
  obtain rfl : w1 = (.long i1) := Option.some.inj ei1
  obtain ⟨i2, ei2⟩ := is_v g6
  obtain rfl : w2 = (.int i2) := Option.some.inj ei2
  obtain ⟨aC, eC⟩ := arr_v (Cond.before_iff.mp (hsets _ (List.mem_of_getElem? (i := 2) rfl)))
  obtain ⟨clC, AC⟩ := Arr.start eC (Cond.before_iff.mp (hsets _ (List.mem_of_getElem? (i := 2) rfl)))
  have SC : Sta s s.heap "java/lang/Long$LongCache" "cache" "[Ljava/lang/Long;" (.ref aC) := Sta.start eC (Or.inl (hsets _ (List.mem_of_getElem? (i := 1) rfl)))
  have hlen := eqv_i (Term.int_eval (256)) (Cond.before_iff.mp (hsets _ (List.mem_of_getElem? (i := 4) rfl)))
  have hHB := own_cache (fun idx => rfl) eC AC hlen (Cond.before_iff.mp (hsets _ (List.mem_of_getElem? (i := 5) rfl)))
  obtain ⟨n, o, h1, h2, h3, _, L, rfl, ⟨rfl, N⟩, hq⟩ := rm0 l s _ hw tables_1 i0 i1 i2 aC clC s.heap s.heap.size (Nat.le_refl _) SC hHB (Old.start s) p e ha hc hk s m _ below hf ((Spec.applies_iff_loose hf).mp happ).1 ⟨rfl, State.Warmed39.refl s, rfl⟩ trivial
  refine ⟨n, _, h1, h2, h3, hpost _ _ _ _ _ _ ⟨Cond.after_iff.mpr rfl, Cond.after_iff.mpr (eq_i res_at (Term.int_eval (1)) rfl), trivial⟩ ⟨hq.1, hq.2.1, (hq.2.2.sift fun y hy => Or.inr (N y hy)).mono (by decide) (by decide)⟩⟩
theorem main_1_1 : Claimed_1_1 := comes_1 fun _ _ _ _ _ _ h hF => ⟨h.1, hF⟩
theorem main_1_2 : Claimed_1_2 := comes_1 fun _ _ _ _ _ _ h hF => ⟨h.2.1, hF⟩
end Jvm.Pilot.@@N@@
namespace Jvm.Pilot.@@N@@
open Jvm Jvm.ClassFile Sem Op Lib Jvm.Free Jvm.Stand Jvm.Pilot.@@N@@.Jvm.D
/-! MADE BY PROGRAM (witnessworld.py) out of the Statement's table words and the real class files: 19 classes; the members and pool entries that the words name. The judged class is class 1, her method 1. -/
namespace start1
open Jvm.ClassFile
def u (s : String) : CpInfo := .utf8 (stringToUtf16 s)
/-- a pool by its gaps: so many unusable entries, then the entry; so many at the end -/
def gap : Nat → List CpInfo → List CpInfo
  | 0, r => r
  | n + 1, r => .unusable :: gap n r
def poolList (es : List (Nat × CpInfo)) (last : Nat) : List CpInfo := es.foldr (fun e r => gap e.1 (e.2 :: r)) (gap last [])
def pool (es : List (Nat × CpInfo)) (last : Nat) : Array CpInfo := ⟨poolList es last⟩
def fileOf (pool : Array CpInfo) (this : Nat) (attrs : Array Attribute := #[]) (ms : Array MethodInfo := #[]) (fl : Nat := 33) (sup : Nat := 0) (ifs : Array Nat := #[]) (fds : Array FieldInfo := #[]) : ClassFile where
  minorVersion := 0
  majorVersion := 65
  constantPool := pool
  accessFlags := fl
  thisClass := this
  superClass := sup
  interfaces := ifs
  fields := fds
  methods := ms
  attributes := attrs
def plain (name : String) (sup : Option ClassId) : Class where
  name := name
  kind := .ordinary
  loader := none
  accessFlags := 33
  super := sup
  interfaces := #[]
  cf := none
  fields := #[]
  methods := #[]
  instanceTypes := #[]
  staticTypes := #[]
  resolved := #[]
  callSites := []
  init := .initialized
  statics := none
  mirror := none

def pool0 : Array CpInfo := pool [(5, u "<init>"), (0, u "()V"), (1, .class_ 10), (1, u "java/lang/Object")] 113

def k0c0 : Code := { maxStack := 0, maxLocals := 1, code := object_method_1_code, exceptionTable := #[], attributes := #[] }
def k0m0 : Method := { name := "<init>", desc := "()V", sig := { parameters := [], returnType := none }, accessFlags := 1, code := some k0c0 }
/-- java/lang/Object -/
def k0 : Class := { plain "java/lang/Object" none with
  accessFlags := 33
  interfaces := #[]
  cf := some (fileOf pool0 8 #[] #[{ accessFlags := 1, nameIndex := 5, descriptorIndex := 6, attributes := #[] }] 33 0 #[] #[])
  fields := #[]
  methods := #[k0m0]
  instanceTypes := #[]
  staticTypes := #[]
  resolved := Array.replicate 124 none
  statics := none }

def pool1 : Array CpInfo := pool [(2, .class_ 4), (1, u "java/lang/Object"), (0, u "<init>"), (0, u "()V"), (0, .long 65535), (1, .class_ 10), (0, u "com/example/firepick/firepick/IntegerItem"), (0, .methodref 9 12), (0, .nameAndType 5 13), (0, u "(J)V"), (0, .class_ 15), (0, u "com/example/firepick/firepick/DecimalItem"), (0, .methodref 14 17), (0, .nameAndType 5 18), (0, u "(D)V"), (0, .methodref 20 21), (0, .class_ 22), (0, .nameAndType 23 24), (0, u "java/lang/Long"), (0, u "valueOf"), (0, u "(J)Ljava/lang/Long;"), (0, .methodref 9 26), (0, .nameAndType 27 28), (0, u "equals"), (0, u "(Ljava/lang/Object;)Z"), (0, .class_ 30), (0, u "com/example/firepick/firepick/IntegerItemEqualsPinLaw"), (2, u "law"), (0, u "(JJI)Z")] 3

def k1m0 : Method := { name := "<init>", desc := "()V", sig := { parameters := [], returnType := none }, accessFlags := 1, code := none }
def k1c1 : Code := { maxStack := 4, maxLocals := 11, code := code, exceptionTable := #[], attributes := #[] }
def k1m1 : Method := { name := "law", desc := "(JJI)Z", sig := { parameters := [.long, .long, .int], returnType := some .boolean }, accessFlags := 9, code := some k1c1 }
/-- com/example/firepick/firepick/IntegerItemEqualsPinLaw -/
def k1 : Class := { plain "com/example/firepick/firepick/IntegerItemEqualsPinLaw" (some 0) with
  accessFlags := 49
  interfaces := #[]
  cf := some (fileOf pool1 29 #[] #[{ accessFlags := 1, nameIndex := 5, descriptorIndex := 6, attributes := #[] }, { accessFlags := 9, nameIndex := 33, descriptorIndex := 34, attributes := #[] }] 49 2 #[] #[])
  fields := #[]
  methods := #[k1m0, k1m1]
  instanceTypes := #[]
  staticTypes := #[]
  resolved := Array.replicate 38 none
  statics := none }

def pool2 : Array CpInfo := pool [(1, .methodref 2 3), (0, .class_ 4), (0, .nameAndType 5 6), (0, u "java/lang/Object"), (0, u "<init>"), (0, u "()V"), (0, .class_ 8), (0, u "java/lang/Record")] 13

def k2c0 : Code := { maxStack := 1, maxLocals := 1, code := jdk_30_method_1_code, exceptionTable := #[], attributes := #[] }
def k2m0 : Method := { name := "<init>", desc := "()V", sig := { parameters := [], returnType := none }, accessFlags := 4, code := some k2c0 }
/-- java/lang/Record -/
def k2 : Class := { plain "java/lang/Record" (some 0) with
  accessFlags := 1057
  interfaces := #[]
  cf := some (fileOf pool2 7 #[] #[{ accessFlags := 4, nameIndex := 5, descriptorIndex := 6, attributes := #[] }] 1057 2 #[] #[])
  fields := #[]
  methods := #[k2m0]
  instanceTypes := #[]
  staticTypes := #[]
  resolved := Array.replicate 22 none
  statics := none }

def pool3 : Array CpInfo := pool [(1, .class_ 2), (0, u "com/example/firepick/firepick/Item"), (0, .class_ 4), (0, u "java/lang/Object")] 15

/-- com/example/firepick/firepick/Item -/
def k3 : Class := { plain "com/example/firepick/firepick/Item" (some 0) with
  accessFlags := 1537
  interfaces := #[]
  cf := some (fileOf pool3 1 #[] #[] 1537 3 #[] #[])
  fields := #[]
  methods := #[]
  instanceTypes := #[]
  staticTypes := #[]
  resolved := Array.replicate 20 none
  statics := none }

def pool4 : Array CpInfo := pool [(1, .methodref 2 3), (0, .class_ 4), (0, .nameAndType 5 6), (0, u "java/lang/Record"), (0, u "<init>"), (0, u "()V"), (0, .fieldref 8 9), (0, .class_ 10), (0, .nameAndType 11 12), (0, u "com/example/firepick/firepick/IntegerItem"), (0, u "value"), (0, u "J"), (10, .class_ 24), (0, u "com/example/firepick/firepick/Item"), (0, u "(J)V"), (3, u "equals"), (0, u "(Ljava/lang/Object;)Z")] 7

def k4c0 : Code := { maxStack := 3, maxLocals := 3, code := prog_52_method_1_code, exceptionTable := #[], attributes := #[] }
def k4m0 : Method := { name := "<init>", desc := "(J)V", sig := { parameters := [.long], returnType := none }, accessFlags := 1, code := some k4c0 }
def k4c1 : Code := { maxStack := 4, maxLocals := 3, code := prog_52_method_2_code, exceptionTable := #[], attributes := #[] }
def k4m1 : Method := { name := "equals", desc := "(Ljava/lang/Object;)Z", sig := { parameters := [(.object "java/lang/Object")], returnType := some .boolean }, accessFlags := 1, code := some k4c1 }
/-- com/example/firepick/firepick/IntegerItem -/
def k4 : Class := { plain "com/example/firepick/firepick/IntegerItem" (some 2) with
  accessFlags := 49
  interfaces := #[3]
  cf := some (fileOf pool4 8 #[] #[{ accessFlags := 1, nameIndex := 5, descriptorIndex := 25, attributes := #[] }, { accessFlags := 1, nameIndex := 29, descriptorIndex := 30, attributes := #[] }] 49 2 #[23] #[{ accessFlags := 18, nameIndex := 11, descriptorIndex := 12, attributes := #[] }])
  fields := #[{ name := "value", type := .long, accessFlags := 18, slot := 0, constantValue := 0 }]
  methods := #[k4m0, k4m1]
  instanceTypes := #[.long]
  staticTypes := #[]
  resolved := Array.replicate 38 none
  statics := none }

def pool5 : Array CpInfo := pool [(1, .class_ 2), (0, u "java/io/Serializable"), (0, .class_ 4), (0, u "java/lang/Object")] 2

/-- java/io/Serializable -/
def k5 : Class := { plain "java/io/Serializable" (some 0) with
  accessFlags := 1537
  interfaces := #[]
  cf := some (fileOf pool5 1 #[] #[] 1537 3 #[] #[])
  fields := #[]
  methods := #[]
  instanceTypes := #[]
  staticTypes := #[]
  resolved := Array.replicate 7 none
  statics := none }

def pool6 : Array CpInfo := pool [(1, .methodref 2 3), (0, .class_ 4), (0, .nameAndType 5 6), (0, u "java/lang/Object"), (0, u "<init>"), (0, u "()V"), (1, .class_ 10), (1, u "java/lang/Number"), (2, .class_ 14), (0, u "java/io/Serializable"), (0, u "serialVersionUID"), (0, u "J")] 20

def k6c0 : Code := { maxStack := 1, maxLocals := 1, code := jdk_18_method_1_code, exceptionTable := #[], attributes := #[] }
def k6m0 : Method := { name := "<init>", desc := "()V", sig := { parameters := [], returnType := none }, accessFlags := 1, code := some k6c0 }
/-- java/lang/Number -/
def k6 : Class := { plain "java/lang/Number" (some 0) with
  accessFlags := 1057
  interfaces := #[5]
  cf := some (fileOf pool6 8 #[] #[{ accessFlags := 1, nameIndex := 5, descriptorIndex := 6, attributes := #[] }] 1057 2 #[13] #[{ accessFlags := 26, nameIndex := 15, descriptorIndex := 16, attributes := #[] }])
  fields := #[{ name := "serialVersionUID", type := .long, accessFlags := 26, slot := 0, constantValue := 0 }]
  methods := #[k6m0]
  instanceTypes := #[]
  staticTypes := #[.long]
  resolved := Array.replicate 37 none
  statics := none }

def pool7 : Array CpInfo := pool [(1, .class_ 2), (0, u "java/lang/Comparable"), (0, .class_ 4), (0, u "java/lang/Object")] 7

/-- java/lang/Comparable -/
def k7 : Class := { plain "java/lang/Comparable" (some 0) with
  accessFlags := 1537
  interfaces := #[]
  cf := some (fileOf pool7 1 #[] #[] 1537 3 #[] #[])
  fields := #[]
  methods := #[]
  instanceTypes := #[]
  staticTypes := #[]
  resolved := Array.replicate 12 none
  statics := none }

def pool8 : Array CpInfo := pool [(1, .class_ 2), (0, u "java/lang/constant/Constable"), (0, .class_ 4), (0, u "java/lang/Object")] 6

/-- java/lang/constant/Constable -/
def k8 : Class := { plain "java/lang/constant/Constable" (some 0) with
  accessFlags := 1537
  interfaces := #[]
  cf := some (fileOf pool8 1 #[] #[] 1537 3 #[] #[])
  fields := #[]
  methods := #[]
  instanceTypes := #[]
  staticTypes := #[]
  resolved := Array.replicate 11 none
  statics := none }

def pool9 : Array CpInfo := pool [(1, .class_ 2), (0, u "java/lang/constant/ConstantDesc"), (0, .class_ 4), (0, u "java/lang/Object")] 32

/-- java/lang/constant/ConstantDesc -/
def k9 : Class := { plain "java/lang/constant/ConstantDesc" (some 0) with
  accessFlags := 1537
  interfaces := #[]
  cf := some (fileOf pool9 1 #[] #[] 1537 3 #[] #[])
  fields := #[]
  methods := #[]
  instanceTypes := #[]
  staticTypes := #[]
  resolved := Array.replicate 37 none
  statics := none }

def pool10 : Array CpInfo := pool [(1, .class_ 2), (0, u "java/lang/Long"), (55, .nameAndType 59 60), (0, u "<init>"), (0, u "()V"), (24, u "valueOf"), (143, u "(J)Ljava/lang/Long;"), (0, .long 18446744073709551488), (1, .long 127), (1, .fieldref 235 236), (0, .class_ 237), (0, .nameAndType 238 239), (0, u "java/lang/Long$LongCache"), (0, u "cache"), (0, u "[Ljava/lang/Long;"), (0, .methodref 1 241), (0, .nameAndType 59 242), (0, u "(J)V"), (27, .methodref 271 58), (0, .class_ 272), (0, u "java/lang/Number"), (0, .fieldref 1 274), (0, .nameAndType 275 276), (0, u "value"), (0, u "J"), (84, u "TYPE"), (0, u "Ljava/lang/Class;"), (0, .class_ 364), (0, u "java/lang/Comparable"), (0, .class_ 366), (0, u "java/lang/constant/Constable"), (0, .class_ 368), (0, u "java/lang/constant/ConstantDesc"), (0, u "MIN_VALUE"), (1, u "MAX_VALUE"), (4, u "SIZE"), (0, u "I"), (1, u "BYTES"), (1, u "serialVersionUID")] 142

def k10c0 : Code := { maxStack := 4, maxLocals := 3, code := jdk_35_method_24_code, exceptionTable := #[], attributes := #[] }
def k10m0 : Method := { name := "valueOf", desc := "(J)Ljava/lang/Long;", sig := { parameters := [.long], returnType := some (.object "java/lang/Long") }, accessFlags := 9, code := some k10c0 }
def k10c1 : Code := { maxStack := 3, maxLocals := 3, code := jdk_35_method_26_code, exceptionTable := #[], attributes := #[] }
def k10m1 : Method := { name := "<init>", desc := "(J)V", sig := { parameters := [.long], returnType := none }, accessFlags := 1, code := some k10c1 }
/-- java/lang/Long -/
def k10 : Class := { plain "java/lang/Long" (some 6) with
  accessFlags := 49
  interfaces := #[7, 8, 9]
  cf := some (fileOf pool10 1 #[.nestMembers #[235]] #[{ accessFlags := 9, nameIndex := 85, descriptorIndex := 229, attributes := #[] }, { accessFlags := 1, nameIndex := 59, descriptorIndex := 242, attributes := #[] }] 49 271 #[363, 365, 367] #[{ accessFlags := 25, nameIndex := 369, descriptorIndex := 276, attributes := #[] }, { accessFlags := 25, nameIndex := 371, descriptorIndex := 276, attributes := #[] }, { accessFlags := 25, nameIndex := 361, descriptorIndex := 362, attributes := #[] }, { accessFlags := 18, nameIndex := 275, descriptorIndex := 276, attributes := #[] }, { accessFlags := 25, nameIndex := 376, descriptorIndex := 377, attributes := #[] }, { accessFlags := 25, nameIndex := 379, descriptorIndex := 377, attributes := #[] }, { accessFlags := 26, nameIndex := 381, descriptorIndex := 276, attributes := #[] }])
  fields := #[{ name := "MIN_VALUE", type := .long, accessFlags := 25, slot := 0, constantValue := 0 }, { name := "MAX_VALUE", type := .long, accessFlags := 25, slot := 1, constantValue := 0 }, { name := "TYPE", type := (.object "java/lang/Class"), accessFlags := 25, slot := 2, constantValue := 0 }, { name := "value", type := .long, accessFlags := 18, slot := 0, constantValue := 0 }, { name := "SIZE", type := .int, accessFlags := 25, slot := 3, constantValue := 0 }, { name := "BYTES", type := .int, accessFlags := 25, slot := 4, constantValue := 0 }, { name := "serialVersionUID", type := .long, accessFlags := 26, slot := 5, constantValue := 0 }]
  methods := #[k10m0, k10m1]
  instanceTypes := #[.long]
  staticTypes := #[.long, .long, (.object "java/lang/Class"), .int, .int, .long]
  resolved := Array.replicate 524 none
  statics := none }

def pool11 : Array CpInfo := pool [(1, .methodref 2 3), (0, .class_ 4), (0, .nameAndType 5 6), (0, u "java/lang/Record"), (0, u "<init>"), (0, u "()V"), (0, .fieldref 8 9), (0, .class_ 10), (0, .nameAndType 11 12), (0, u "com/example/firepick/firepick/DecimalItem"), (0, u "value"), (0, u "D"), (14, .class_ 28), (0, u "com/example/firepick/firepick/Item"), (0, u "(D)V")] 12

def k11c0 : Code := { maxStack := 3, maxLocals := 3, code := prog_24_method_1_code, exceptionTable := #[], attributes := #[] }
def k11m0 : Method := { name := "<init>", desc := "(D)V", sig := { parameters := [.double], returnType := none }, accessFlags := 1, code := some k11c0 }
/-- com/example/firepick/firepick/DecimalItem -/
def k11 : Class := { plain "com/example/firepick/firepick/DecimalItem" (some 2) with
  accessFlags := 49
  interfaces := #[3]
  cf := some (fileOf pool11 8 #[] #[{ accessFlags := 1, nameIndex := 5, descriptorIndex := 29, attributes := #[] }] 49 2 #[27] #[{ accessFlags := 18, nameIndex := 11, descriptorIndex := 12, attributes := #[] }])
  fields := #[{ name := "value", type := .double, accessFlags := 18, slot := 0, constantValue := 0 }]
  methods := #[k11m0]
  instanceTypes := #[.double]
  staticTypes := #[]
  resolved := Array.replicate 42 none
  statics := none }

def pool12 : Array CpInfo := pool [(2, .class_ 4), (1, u "java/lang/Object"), (0, u "<init>"), (0, u "()V"), (0, .class_ 8), (0, u "java/lang/Long"), (7, .class_ 18), (1, u "java/lang/Long$LongCache"), (0, u "$assertionsDisabled"), (0, u "Z"), (8, u "archivedCache"), (0, u "[Ljava/lang/Long;"), (7, u "cache")] 24

def k12m0 : Method := { name := "<init>", desc := "()V", sig := { parameters := [], returnType := none }, accessFlags := 2, code := none }
/-- java/lang/Long$LongCache -/
def k12 : Class := { plain "java/lang/Long$LongCache" (some 0) with
  accessFlags := 48
  interfaces := #[]
  cf := some (fileOf pool12 16 #[.nestHost 7] #[{ accessFlags := 2, nameIndex := 5, descriptorIndex := 6, attributes := #[] }] 48 2 #[] #[{ accessFlags := 24, nameIndex := 38, descriptorIndex := 30, attributes := #[] }, { accessFlags := 8, nameIndex := 29, descriptorIndex := 30, attributes := #[] }, { accessFlags := 4120, nameIndex := 19, descriptorIndex := 20, attributes := #[] }])
  fields := #[{ name := "cache", type := (.array (.object "java/lang/Long")), accessFlags := 24, slot := 0, constantValue := 0 }, { name := "archivedCache", type := (.array (.object "java/lang/Long")), accessFlags := 8, slot := 1, constantValue := 0 }, { name := "$assertionsDisabled", type := .boolean, accessFlags := 4120, slot := 2, constantValue := 0 }]
  methods := #[k12m0]
  instanceTypes := #[]
  staticTypes := #[(.array (.object "java/lang/Long")), (.array (.object "java/lang/Long")), .boolean]
  resolved := Array.replicate 63 none
  statics := some 0 }

def pool13 : Array CpInfo := pool [(1, u "java/lang/Cloneable"), (0, .class_ 1), (0, u "java/lang/Object"), (0, .class_ 3)] 3

/-- java/lang/Cloneable -/
def k13 : Class := { plain "java/lang/Cloneable" (some 0) with
  accessFlags := 1537
  interfaces := #[]
  cf := some (fileOf pool13 2 #[] #[] 1537 4 #[] #[])
  fields := #[]
  methods := #[]
  instanceTypes := #[]
  staticTypes := #[]
  resolved := Array.replicate 8 none
  statics := none }

/-- the primitive byte -/
def k14 : Class := { plain "byte" none with kind := .primitive 'B', accessFlags := 0x411 }
/-- [B -/
def k15 : Class := { plain "[B" (some 0) with kind := .array 14 .byte, interfaces := #[13, 5], accessFlags := 1041 }

/-- the primitive int -/
def k16 : Class := { plain "int" none with kind := .primitive 'I', accessFlags := 0x411 }
/-- [I -/
def k17 : Class := { plain "[I" (some 0) with kind := .array 16 .int, interfaces := #[13, 5], accessFlags := 1041 }

/-- [Ljava/lang/Long; -/
def k18 : Class := { plain "[Ljava/lang/Long;" (some 0) with kind := .array 10 (.object "java/lang/Long"), interfaces := #[13, 5], accessFlags := 1041 }

def heap : Heap := #[{ cls := 12, slots := #[.ref 1, .null, .int 0], vm := .statics 12 },
  { cls := 18, slots := #[.ref 2, .ref 3, .ref 4, .ref 5, .ref 6, .ref 7, .ref 8, .ref 9, .ref 10, .ref 11, .ref 12, .ref 13, .ref 14, .ref 15, .ref 16, .ref 17, .ref 18, .ref 19, .ref 20, .ref 21, .ref 22, .ref 23, .ref 24, .ref 25, .ref 26, .ref 27, .ref 28, .ref 29, .ref 30, .ref 31, .ref 32, .ref 33, .ref 34, .ref 35, .ref 36, .ref 37, .ref 38, .ref 39, .ref 40, .ref 41, .ref 42, .ref 43, .ref 44, .ref 45, .ref 46, .ref 47, .ref 48, .ref 49, .ref 50, .ref 51, .ref 52, .ref 53, .ref 54, .ref 55, .ref 56, .ref 57, .ref 58, .ref 59, .ref 60, .ref 61, .ref 62, .ref 63, .ref 64, .ref 65, .ref 66, .ref 67, .ref 68, .ref 69, .ref 70, .ref 71, .ref 72, .ref 73, .ref 74, .ref 75, .ref 76, .ref 77, .ref 78, .ref 79, .ref 80, .ref 81, .ref 82, .ref 83, .ref 84, .ref 85, .ref 86, .ref 87, .ref 88, .ref 89, .ref 90, .ref 91, .ref 92, .ref 93, .ref 94, .ref 95, .ref 96, .ref 97, .ref 98, .ref 99, .ref 100, .ref 101, .ref 102, .ref 103, .ref 104, .ref 105, .ref 106, .ref 107, .ref 108, .ref 109, .ref 110, .ref 111, .ref 112, .ref 113, .ref 114, .ref 115, .ref 116, .ref 117, .ref 118, .ref 119, .ref 120, .ref 121, .ref 122, .ref 123, .ref 124, .ref 125, .ref 126, .ref 127, .ref 128, .ref 129, .ref 130, .ref 131, .ref 132, .ref 133, .ref 134, .ref 135, .ref 136, .ref 137, .ref 138, .ref 139, .ref 140, .ref 141, .ref 142, .ref 143, .ref 144, .ref 145, .ref 146, .ref 147, .ref 148, .ref 149, .ref 150, .ref 151, .ref 152, .ref 153, .ref 154, .ref 155, .ref 156, .ref 157, .ref 158, .ref 159, .ref 160, .ref 161, .ref 162, .ref 163, .ref 164, .ref 165, .ref 166, .ref 167, .ref 168, .ref 169, .ref 170, .ref 171, .ref 172, .ref 173, .ref 174, .ref 175, .ref 176, .ref 177, .ref 178, .ref 179, .ref 180, .ref 181, .ref 182, .ref 183, .ref 184, .ref 185, .ref 186, .ref 187, .ref 188, .ref 189, .ref 190, .ref 191, .ref 192, .ref 193, .ref 194, .ref 195, .ref 196, .ref 197, .ref 198, .ref 199, .ref 200, .ref 201, .ref 202, .ref 203, .ref 204, .ref 205, .ref 206, .ref 207, .ref 208, .ref 209, .ref 210, .ref 211, .ref 212, .ref 213, .ref 214, .ref 215, .ref 216, .ref 217, .ref 218, .ref 219, .ref 220, .ref 221, .ref 222, .ref 223, .ref 224, .ref 225, .ref 226, .ref 227, .ref 228, .ref 229, .ref 230, .ref 231, .ref 232, .ref 233, .ref 234, .ref 235, .ref 236, .ref 237, .ref 238, .ref 239, .ref 240, .ref 241, .ref 242, .ref 243, .ref 244, .ref 245, .ref 246, .ref 247, .ref 248, .ref 249, .ref 250, .ref 251, .ref 252, .ref 253, .ref 254, .ref 255, .ref 256, .ref 257], vm := .none },
  { cls := 10, slots := #[.long (-128)], vm := .none },
  { cls := 10, slots := #[.long (-127)], vm := .none },
  { cls := 10, slots := #[.long (-126)], vm := .none },
  { cls := 10, slots := #[.long (-125)], vm := .none },
  { cls := 10, slots := #[.long (-124)], vm := .none },
  { cls := 10, slots := #[.long (-123)], vm := .none },
  { cls := 10, slots := #[.long (-122)], vm := .none },
  { cls := 10, slots := #[.long (-121)], vm := .none },
  { cls := 10, slots := #[.long (-120)], vm := .none },
  { cls := 10, slots := #[.long (-119)], vm := .none },
  { cls := 10, slots := #[.long (-118)], vm := .none },
  { cls := 10, slots := #[.long (-117)], vm := .none },
  { cls := 10, slots := #[.long (-116)], vm := .none },
  { cls := 10, slots := #[.long (-115)], vm := .none },
  { cls := 10, slots := #[.long (-114)], vm := .none },
  { cls := 10, slots := #[.long (-113)], vm := .none },
  { cls := 10, slots := #[.long (-112)], vm := .none },
  { cls := 10, slots := #[.long (-111)], vm := .none },
  { cls := 10, slots := #[.long (-110)], vm := .none },
  { cls := 10, slots := #[.long (-109)], vm := .none },
  { cls := 10, slots := #[.long (-108)], vm := .none },
  { cls := 10, slots := #[.long (-107)], vm := .none },
  { cls := 10, slots := #[.long (-106)], vm := .none },
  { cls := 10, slots := #[.long (-105)], vm := .none },
  { cls := 10, slots := #[.long (-104)], vm := .none },
  { cls := 10, slots := #[.long (-103)], vm := .none },
  { cls := 10, slots := #[.long (-102)], vm := .none },
  { cls := 10, slots := #[.long (-101)], vm := .none },
  { cls := 10, slots := #[.long (-100)], vm := .none },
  { cls := 10, slots := #[.long (-99)], vm := .none },
  { cls := 10, slots := #[.long (-98)], vm := .none },
  { cls := 10, slots := #[.long (-97)], vm := .none },
  { cls := 10, slots := #[.long (-96)], vm := .none },
  { cls := 10, slots := #[.long (-95)], vm := .none },
  { cls := 10, slots := #[.long (-94)], vm := .none },
  { cls := 10, slots := #[.long (-93)], vm := .none },
  { cls := 10, slots := #[.long (-92)], vm := .none },
  { cls := 10, slots := #[.long (-91)], vm := .none },
  { cls := 10, slots := #[.long (-90)], vm := .none },
  { cls := 10, slots := #[.long (-89)], vm := .none },
  { cls := 10, slots := #[.long (-88)], vm := .none },
  { cls := 10, slots := #[.long (-87)], vm := .none },
  { cls := 10, slots := #[.long (-86)], vm := .none },
  { cls := 10, slots := #[.long (-85)], vm := .none },
  { cls := 10, slots := #[.long (-84)], vm := .none },
  { cls := 10, slots := #[.long (-83)], vm := .none },
  { cls := 10, slots := #[.long (-82)], vm := .none },
  { cls := 10, slots := #[.long (-81)], vm := .none },
  { cls := 10, slots := #[.long (-80)], vm := .none },
  { cls := 10, slots := #[.long (-79)], vm := .none },
  { cls := 10, slots := #[.long (-78)], vm := .none },
  { cls := 10, slots := #[.long (-77)], vm := .none },
  { cls := 10, slots := #[.long (-76)], vm := .none },
  { cls := 10, slots := #[.long (-75)], vm := .none },
  { cls := 10, slots := #[.long (-74)], vm := .none },
  { cls := 10, slots := #[.long (-73)], vm := .none },
  { cls := 10, slots := #[.long (-72)], vm := .none },
  { cls := 10, slots := #[.long (-71)], vm := .none },
  { cls := 10, slots := #[.long (-70)], vm := .none },
  { cls := 10, slots := #[.long (-69)], vm := .none },
  { cls := 10, slots := #[.long (-68)], vm := .none },
  { cls := 10, slots := #[.long (-67)], vm := .none },
  { cls := 10, slots := #[.long (-66)], vm := .none },
  { cls := 10, slots := #[.long (-65)], vm := .none },
  { cls := 10, slots := #[.long (-64)], vm := .none },
  { cls := 10, slots := #[.long (-63)], vm := .none },
  { cls := 10, slots := #[.long (-62)], vm := .none },
  { cls := 10, slots := #[.long (-61)], vm := .none },
  { cls := 10, slots := #[.long (-60)], vm := .none },
  { cls := 10, slots := #[.long (-59)], vm := .none },
  { cls := 10, slots := #[.long (-58)], vm := .none },
  { cls := 10, slots := #[.long (-57)], vm := .none },
  { cls := 10, slots := #[.long (-56)], vm := .none },
  { cls := 10, slots := #[.long (-55)], vm := .none },
  { cls := 10, slots := #[.long (-54)], vm := .none },
  { cls := 10, slots := #[.long (-53)], vm := .none },
  { cls := 10, slots := #[.long (-52)], vm := .none },
  { cls := 10, slots := #[.long (-51)], vm := .none },
  { cls := 10, slots := #[.long (-50)], vm := .none },
  { cls := 10, slots := #[.long (-49)], vm := .none },
  { cls := 10, slots := #[.long (-48)], vm := .none },
  { cls := 10, slots := #[.long (-47)], vm := .none },
  { cls := 10, slots := #[.long (-46)], vm := .none },
  { cls := 10, slots := #[.long (-45)], vm := .none },
  { cls := 10, slots := #[.long (-44)], vm := .none },
  { cls := 10, slots := #[.long (-43)], vm := .none },
  { cls := 10, slots := #[.long (-42)], vm := .none },
  { cls := 10, slots := #[.long (-41)], vm := .none },
  { cls := 10, slots := #[.long (-40)], vm := .none },
  { cls := 10, slots := #[.long (-39)], vm := .none },
  { cls := 10, slots := #[.long (-38)], vm := .none },
  { cls := 10, slots := #[.long (-37)], vm := .none },
  { cls := 10, slots := #[.long (-36)], vm := .none },
  { cls := 10, slots := #[.long (-35)], vm := .none },
  { cls := 10, slots := #[.long (-34)], vm := .none },
  { cls := 10, slots := #[.long (-33)], vm := .none },
  { cls := 10, slots := #[.long (-32)], vm := .none },
  { cls := 10, slots := #[.long (-31)], vm := .none },
  { cls := 10, slots := #[.long (-30)], vm := .none },
  { cls := 10, slots := #[.long (-29)], vm := .none },
  { cls := 10, slots := #[.long (-28)], vm := .none },
  { cls := 10, slots := #[.long (-27)], vm := .none },
  { cls := 10, slots := #[.long (-26)], vm := .none },
  { cls := 10, slots := #[.long (-25)], vm := .none },
  { cls := 10, slots := #[.long (-24)], vm := .none },
  { cls := 10, slots := #[.long (-23)], vm := .none },
  { cls := 10, slots := #[.long (-22)], vm := .none },
  { cls := 10, slots := #[.long (-21)], vm := .none },
  { cls := 10, slots := #[.long (-20)], vm := .none },
  { cls := 10, slots := #[.long (-19)], vm := .none },
  { cls := 10, slots := #[.long (-18)], vm := .none },
  { cls := 10, slots := #[.long (-17)], vm := .none },
  { cls := 10, slots := #[.long (-16)], vm := .none },
  { cls := 10, slots := #[.long (-15)], vm := .none },
  { cls := 10, slots := #[.long (-14)], vm := .none },
  { cls := 10, slots := #[.long (-13)], vm := .none },
  { cls := 10, slots := #[.long (-12)], vm := .none },
  { cls := 10, slots := #[.long (-11)], vm := .none },
  { cls := 10, slots := #[.long (-10)], vm := .none },
  { cls := 10, slots := #[.long (-9)], vm := .none },
  { cls := 10, slots := #[.long (-8)], vm := .none },
  { cls := 10, slots := #[.long (-7)], vm := .none },
  { cls := 10, slots := #[.long (-6)], vm := .none },
  { cls := 10, slots := #[.long (-5)], vm := .none },
  { cls := 10, slots := #[.long (-4)], vm := .none },
  { cls := 10, slots := #[.long (-3)], vm := .none },
  { cls := 10, slots := #[.long (-2)], vm := .none },
  { cls := 10, slots := #[.long (-1)], vm := .none },
  { cls := 10, slots := #[.long 0], vm := .none },
  { cls := 10, slots := #[.long 1], vm := .none },
  { cls := 10, slots := #[.long 2], vm := .none },
  { cls := 10, slots := #[.long 3], vm := .none },
  { cls := 10, slots := #[.long 4], vm := .none },
  { cls := 10, slots := #[.long 5], vm := .none },
  { cls := 10, slots := #[.long 6], vm := .none },
  { cls := 10, slots := #[.long 7], vm := .none },
  { cls := 10, slots := #[.long 8], vm := .none },
  { cls := 10, slots := #[.long 9], vm := .none },
  { cls := 10, slots := #[.long 10], vm := .none },
  { cls := 10, slots := #[.long 11], vm := .none },
  { cls := 10, slots := #[.long 12], vm := .none },
  { cls := 10, slots := #[.long 13], vm := .none },
  { cls := 10, slots := #[.long 14], vm := .none },
  { cls := 10, slots := #[.long 15], vm := .none },
  { cls := 10, slots := #[.long 16], vm := .none },
  { cls := 10, slots := #[.long 17], vm := .none },
  { cls := 10, slots := #[.long 18], vm := .none },
  { cls := 10, slots := #[.long 19], vm := .none },
  { cls := 10, slots := #[.long 20], vm := .none },
  { cls := 10, slots := #[.long 21], vm := .none },
  { cls := 10, slots := #[.long 22], vm := .none },
  { cls := 10, slots := #[.long 23], vm := .none },
  { cls := 10, slots := #[.long 24], vm := .none },
  { cls := 10, slots := #[.long 25], vm := .none },
  { cls := 10, slots := #[.long 26], vm := .none },
  { cls := 10, slots := #[.long 27], vm := .none },
  { cls := 10, slots := #[.long 28], vm := .none },
  { cls := 10, slots := #[.long 29], vm := .none },
  { cls := 10, slots := #[.long 30], vm := .none },
  { cls := 10, slots := #[.long 31], vm := .none },
  { cls := 10, slots := #[.long 32], vm := .none },
  { cls := 10, slots := #[.long 33], vm := .none },
  { cls := 10, slots := #[.long 34], vm := .none },
  { cls := 10, slots := #[.long 35], vm := .none },
  { cls := 10, slots := #[.long 36], vm := .none },
  { cls := 10, slots := #[.long 37], vm := .none },
  { cls := 10, slots := #[.long 38], vm := .none },
  { cls := 10, slots := #[.long 39], vm := .none },
  { cls := 10, slots := #[.long 40], vm := .none },
  { cls := 10, slots := #[.long 41], vm := .none },
  { cls := 10, slots := #[.long 42], vm := .none },
  { cls := 10, slots := #[.long 43], vm := .none },
  { cls := 10, slots := #[.long 44], vm := .none },
  { cls := 10, slots := #[.long 45], vm := .none },
  { cls := 10, slots := #[.long 46], vm := .none },
  { cls := 10, slots := #[.long 47], vm := .none },
  { cls := 10, slots := #[.long 48], vm := .none },
  { cls := 10, slots := #[.long 49], vm := .none },
  { cls := 10, slots := #[.long 50], vm := .none },
  { cls := 10, slots := #[.long 51], vm := .none },
  { cls := 10, slots := #[.long 52], vm := .none },
  { cls := 10, slots := #[.long 53], vm := .none },
  { cls := 10, slots := #[.long 54], vm := .none },
  { cls := 10, slots := #[.long 55], vm := .none },
  { cls := 10, slots := #[.long 56], vm := .none },
  { cls := 10, slots := #[.long 57], vm := .none },
  { cls := 10, slots := #[.long 58], vm := .none },
  { cls := 10, slots := #[.long 59], vm := .none },
  { cls := 10, slots := #[.long 60], vm := .none },
  { cls := 10, slots := #[.long 61], vm := .none },
  { cls := 10, slots := #[.long 62], vm := .none },
  { cls := 10, slots := #[.long 63], vm := .none },
  { cls := 10, slots := #[.long 64], vm := .none },
  { cls := 10, slots := #[.long 65], vm := .none },
  { cls := 10, slots := #[.long 66], vm := .none },
  { cls := 10, slots := #[.long 67], vm := .none },
  { cls := 10, slots := #[.long 68], vm := .none },
  { cls := 10, slots := #[.long 69], vm := .none },
  { cls := 10, slots := #[.long 70], vm := .none },
  { cls := 10, slots := #[.long 71], vm := .none },
  { cls := 10, slots := #[.long 72], vm := .none },
  { cls := 10, slots := #[.long 73], vm := .none },
  { cls := 10, slots := #[.long 74], vm := .none },
  { cls := 10, slots := #[.long 75], vm := .none },
  { cls := 10, slots := #[.long 76], vm := .none },
  { cls := 10, slots := #[.long 77], vm := .none },
  { cls := 10, slots := #[.long 78], vm := .none },
  { cls := 10, slots := #[.long 79], vm := .none },
  { cls := 10, slots := #[.long 80], vm := .none },
  { cls := 10, slots := #[.long 81], vm := .none },
  { cls := 10, slots := #[.long 82], vm := .none },
  { cls := 10, slots := #[.long 83], vm := .none },
  { cls := 10, slots := #[.long 84], vm := .none },
  { cls := 10, slots := #[.long 85], vm := .none },
  { cls := 10, slots := #[.long 86], vm := .none },
  { cls := 10, slots := #[.long 87], vm := .none },
  { cls := 10, slots := #[.long 88], vm := .none },
  { cls := 10, slots := #[.long 89], vm := .none },
  { cls := 10, slots := #[.long 90], vm := .none },
  { cls := 10, slots := #[.long 91], vm := .none },
  { cls := 10, slots := #[.long 92], vm := .none },
  { cls := 10, slots := #[.long 93], vm := .none },
  { cls := 10, slots := #[.long 94], vm := .none },
  { cls := 10, slots := #[.long 95], vm := .none },
  { cls := 10, slots := #[.long 96], vm := .none },
  { cls := 10, slots := #[.long 97], vm := .none },
  { cls := 10, slots := #[.long 98], vm := .none },
  { cls := 10, slots := #[.long 99], vm := .none },
  { cls := 10, slots := #[.long 100], vm := .none },
  { cls := 10, slots := #[.long 101], vm := .none },
  { cls := 10, slots := #[.long 102], vm := .none },
  { cls := 10, slots := #[.long 103], vm := .none },
  { cls := 10, slots := #[.long 104], vm := .none },
  { cls := 10, slots := #[.long 105], vm := .none },
  { cls := 10, slots := #[.long 106], vm := .none },
  { cls := 10, slots := #[.long 107], vm := .none },
  { cls := 10, slots := #[.long 108], vm := .none },
  { cls := 10, slots := #[.long 109], vm := .none },
  { cls := 10, slots := #[.long 110], vm := .none },
  { cls := 10, slots := #[.long 111], vm := .none },
  { cls := 10, slots := #[.long 112], vm := .none },
  { cls := 10, slots := #[.long 113], vm := .none },
  { cls := 10, slots := #[.long 114], vm := .none },
  { cls := 10, slots := #[.long 115], vm := .none },
  { cls := 10, slots := #[.long 116], vm := .none },
  { cls := 10, slots := #[.long 117], vm := .none },
  { cls := 10, slots := #[.long 118], vm := .none },
  { cls := 10, slots := #[.long 119], vm := .none },
  { cls := 10, slots := #[.long 120], vm := .none },
  { cls := 10, slots := #[.long 121], vm := .none },
  { cls := 10, slots := #[.long 122], vm := .none },
  { cls := 10, slots := #[.long 123], vm := .none },
  { cls := 10, slots := #[.long 124], vm := .none },
  { cls := 10, slots := #[.long 125], vm := .none },
  { cls := 10, slots := #[.long 126], vm := .none },
  { cls := 10, slots := #[.long 127], vm := .none }]
def classes : Array Class := #[k0, k1, k2, k3, k4, k5, k6, k7, k8, k9, k10, k11, k12, k13, k14, k15, k16, k17, k18]
def interned : List (Array UInt16 × Addr) := []
def slotsUsed : Nat := 515
def theMethod : MethodId := ⟨1, 1⟩
def args0 : Array Value := #[.long 5, .long 7, .int 0]
def aboutOver (below : List Frame) : State where
  vm := { classes := classes, interned := interned.toArray }
  heap := heap
  slotsUsed := slotsUsed
  threads := #[{ frames := .invoking theMethod args0 :: below }]
def below0 : List Frame := [.native { method := ⟨0, 0⟩, args := #[] }]
def about1 : State := aboutOver below0
def p0 : Program := .bare "" "" ""
def e0 : Env := launch0.env 0 0 0
theorem w_frames : about1.frames = Frame.invoking theMethod args0 :: below0 := rfl
set_option maxRecDepth 65536 in
theorem w_args : argsFit about1.vm theMethod args0 = true := by decide +kernel
set_option maxRecDepth 65536 in
theorem w_heap : heapFits about1 = true := by decide +kernel
set_option maxRecDepth 65536 in
theorem w_runnable : about1.curStatus? = some .runnable := by decide +kernel
set_option maxRecDepth 65536 in
theorem w_alone : about1.alone = true := by decide +kernel
set_option maxRecDepth 65536 in
theorem w_named : about1.methodNamed? x = some theMethod := by decide +kernel
set_option maxRecDepth 65536 in
theorem w_hears : about1.hears theMethod below0 = true := by decide +kernel
set_option maxRecDepth 65536 in
theorem w_ripe : about1.ripe theMethod args0 below0 = true := by decide +kernel
theorem w_running : about1.status = .running := rfl
set_option maxRecDepth 65536 in
theorem w_room : about1.hasRoom e0.platform room_1 = true :=
  launch0.hasRoom_least _ room_1 (by decide +kernel) (by decide +kernel) (by decide +kernel) (by decide +kernel) (by decide +kernel) (by decide +kernel)
theorem allAtoms_all (ts : List Jvm.Cond) (a : Array Jvm.Value) (st : Jvm.State) : (allAtoms ts).before a st = ts.all (fun c => c.before a st) := by
  induction ts with
  | nil => rfl
  | cons c t ih =>
    show (Jvm.Cond.and c (allAtoms t)).before a st = _
    rw [Jvm.Cond.before_and, ih, List.all_cons]
def words1 : List Jvm.Cond := Jvm.Cond.code x code maxLocals ret :: tables_1
/-- a 'code' word, met by the world's own term for the bytes: nothing is compared byte by byte -/
theorem code_word {y : MethodName} {bytes : ByteArray} {mx : Nat} {rt : Option FieldType} {a : Array Value} {s : State} {m : MethodId} {meth : Method} {c : Code} (h1 : s.methodNamed? y = some m) (h2 : s.vm.method? m = some meth) (h3 : meth.code = some c) (h4 : c.code = bytes)
    (h5 : (c.maxLocals == mx && c.exceptionTable.isEmpty && decide (c.maxStack ≤ mostOperands) && decide (meth.sig.returnType = rt) && !meth.locks && decide (parseMethodDescriptor y.desc = some meth.sig)) = true) : (Jvm.Cond.code y bytes mx rt).before a s = true := by
  simp only [Bool.and_eq_true, beq_iff_eq, Bool.not_eq_true', decide_eq_true_eq] at h5
  obtain ⟨⟨⟨⟨⟨g1, g2⟩, g3⟩, g4⟩, g5⟩, g6⟩ := h5
  simp [Cond.before, Cond.holds, Cond.value, h1, h2, h3, h4, g1, g2, g3, g4, g5, g6]
def isCode : Jvm.Cond → Bool
  | .code _ _ _ _ => true
  | _ => false
theorem all_split {L : List Jvm.Cond} {P : Jvm.Cond → Bool} (h1 : L.all (fun c => isCode c || P c) = true) (h2 : ∀ c ∈ L.filter isCode, P c = true) : L.all P = true := by
  refine List.all_eq_true.mpr fun c hc => ?_
  have h := List.all_eq_true.mp h1 c hc
  rcases Bool.eq_false_or_eq_true (isCode c) with hi | hi
  · exact h2 c (List.mem_filter.mpr ⟨hc, hi⟩)
  · simpa [hi] using h
set_option maxRecDepth 65536 in
theorem w_c0 : (Jvm.Cond.code x code maxLocals ret).before args0 about1 = true := code_word (m := ⟨1, 1⟩) (meth := k1m1) (c := k1c1) (by decide +kernel) rfl rfl rfl (by decide +kernel)
set_option maxRecDepth 65536 in
theorem w_c1 : (Jvm.Cond.code ({ cls := "com/example/firepick/firepick/IntegerItem", name := "<init>", desc := "(J)V" } : Jvm.MethodName) prog_52_method_1_code (3 : Nat) (Option.none : Option Jvm.ClassFile.FieldType)).before args0 about1 = true := code_word (m := ⟨4, 0⟩) (meth := k4m0) (c := k4c0) (by decide +kernel) rfl rfl rfl (by decide +kernel)
set_option maxRecDepth 65536 in
theorem w_c2 : (Jvm.Cond.code ({ cls := "java/lang/Record", name := "<init>", desc := "()V" } : Jvm.MethodName) jdk_30_method_1_code (1 : Nat) (Option.none : Option Jvm.ClassFile.FieldType)).before args0 about1 = true := code_word (m := ⟨2, 0⟩) (meth := k2m0) (c := k2c0) (by decide +kernel) rfl rfl rfl (by decide +kernel)
set_option maxRecDepth 65536 in
theorem w_c3 : (Jvm.Cond.code ({ cls := "java/lang/Object", name := "<init>", desc := "()V" } : Jvm.MethodName) object_method_1_code (1 : Nat) (Option.none : Option Jvm.ClassFile.FieldType)).before args0 about1 = true := code_word (m := ⟨0, 0⟩) (meth := k0m0) (c := k0c0) (by decide +kernel) rfl rfl rfl (by decide +kernel)
set_option maxRecDepth 65536 in
theorem w_c4 : (Jvm.Cond.code ({ cls := "com/example/firepick/firepick/IntegerItem", name := "equals", desc := "(Ljava/lang/Object;)Z" } : Jvm.MethodName) prog_52_method_2_code (3 : Nat) (Option.some Jvm.ClassFile.FieldType.boolean)).before args0 about1 = true := code_word (m := ⟨4, 1⟩) (meth := k4m1) (c := k4c1) (by decide +kernel) rfl rfl rfl (by decide +kernel)
set_option maxRecDepth 65536 in
theorem w_c5 : (Jvm.Cond.code ({ cls := "java/lang/Long", name := "valueOf", desc := "(J)Ljava/lang/Long;" } : Jvm.MethodName) jdk_35_method_24_code (3 : Nat) (Option.some (Jvm.ClassFile.FieldType.object "java/lang/Long"))).before args0 about1 = true := code_word (m := ⟨10, 0⟩) (meth := k10m0) (c := k10c0) (by decide +kernel) rfl rfl rfl (by decide +kernel)
set_option maxRecDepth 65536 in
theorem w_c6 : (Jvm.Cond.code ({ cls := "java/lang/Long", name := "<init>", desc := "(J)V" } : Jvm.MethodName) jdk_35_method_26_code (3 : Nat) (Option.none : Option Jvm.ClassFile.FieldType)).before args0 about1 = true := code_word (m := ⟨10, 1⟩) (meth := k10m1) (c := k10c1) (by decide +kernel) rfl rfl rfl (by decide +kernel)
set_option maxRecDepth 65536 in
theorem w_c7 : (Jvm.Cond.code ({ cls := "java/lang/Number", name := "<init>", desc := "()V" } : Jvm.MethodName) jdk_18_method_1_code (1 : Nat) (Option.none : Option Jvm.ClassFile.FieldType)).before args0 about1 = true := code_word (m := ⟨6, 0⟩) (meth := k6m0) (c := k6c0) (by decide +kernel) rfl rfl rfl (by decide +kernel)
set_option maxRecDepth 65536 in
theorem w_c8 : (Jvm.Cond.code ({ cls := "com/example/firepick/firepick/DecimalItem", name := "<init>", desc := "(D)V" } : Jvm.MethodName) prog_24_method_1_code (3 : Nat) (Option.none : Option Jvm.ClassFile.FieldType)).before args0 about1 = true := code_word (m := ⟨11, 0⟩) (meth := k11m0) (c := k11c0) (by decide +kernel) rfl rfl rfl (by decide +kernel)
def codes1 : List Jvm.Cond := [Jvm.Cond.code x code maxLocals ret, Jvm.Cond.code ({ cls := "com/example/firepick/firepick/IntegerItem", name := "<init>", desc := "(J)V" } : Jvm.MethodName) prog_52_method_1_code (3 : Nat) (Option.none : Option Jvm.ClassFile.FieldType), Jvm.Cond.code ({ cls := "java/lang/Record", name := "<init>", desc := "()V" } : Jvm.MethodName) jdk_30_method_1_code (1 : Nat) (Option.none : Option Jvm.ClassFile.FieldType), Jvm.Cond.code ({ cls := "java/lang/Object", name := "<init>", desc := "()V" } : Jvm.MethodName) object_method_1_code (1 : Nat) (Option.none : Option Jvm.ClassFile.FieldType), Jvm.Cond.code ({ cls := "com/example/firepick/firepick/IntegerItem", name := "equals", desc := "(Ljava/lang/Object;)Z" } : Jvm.MethodName) prog_52_method_2_code (3 : Nat) (Option.some Jvm.ClassFile.FieldType.boolean), Jvm.Cond.code ({ cls := "java/lang/Long", name := "valueOf", desc := "(J)Ljava/lang/Long;" } : Jvm.MethodName) jdk_35_method_24_code (3 : Nat) (Option.some (Jvm.ClassFile.FieldType.object "java/lang/Long")), Jvm.Cond.code ({ cls := "java/lang/Long", name := "<init>", desc := "(J)V" } : Jvm.MethodName) jdk_35_method_26_code (3 : Nat) (Option.none : Option Jvm.ClassFile.FieldType), Jvm.Cond.code ({ cls := "java/lang/Number", name := "<init>", desc := "()V" } : Jvm.MethodName) jdk_18_method_1_code (1 : Nat) (Option.none : Option Jvm.ClassFile.FieldType), Jvm.Cond.code ({ cls := "com/example/firepick/firepick/DecimalItem", name := "<init>", desc := "(D)V" } : Jvm.MethodName) prog_24_method_1_code (3 : Nat) (Option.none : Option Jvm.ClassFile.FieldType)]
set_option maxRecDepth 65536 in
theorem codes_eq : words1.filter isCode = codes1 := rfl
theorem w_codes : ∀ c ∈ words1.filter isCode, c.before args0 about1 = true := by
  rw [codes_eq]
  intro c hc
  simp only [codes1, List.mem_cons, List.not_mem_nil, or_false] at hc
  rcases hc with rfl | rfl | rfl | rfl | rfl | rfl | rfl | rfl | rfl
  · exact w_c0
  · exact w_c1
  · exact w_c2
  · exact w_c3
  · exact w_c4
  · exact w_c5
  · exact w_c6
  · exact w_c7
  · exact w_c8
set_option maxRecDepth 65536 in
theorem w_t1 : (words1.take 24).all (fun c => isCode c || c.before args0 about1) = true := by decide +kernel
set_option maxRecDepth 65536 in
theorem w_t2 : ((words1.drop 24).take 24).all (fun c => isCode c || c.before args0 about1) = true := by decide +kernel
set_option maxRecDepth 65536 in
theorem w_t3 : ((words1.drop 24).drop 24).all (fun c => isCode c || c.before args0 about1) = true := by decide +kernel
theorem w_tables : (allAtoms (Jvm.Cond.code x code maxLocals ret :: tables_1)).before args0 about1 = true := by
  rw [allAtoms_all]
  show words1.all (fun c => c.before args0 about1) = true
  refine all_split ?_ w_codes
  rw [← List.take_append_drop 24 words1, List.all_append, w_t1, ← List.take_append_drop 24 (words1.drop 24), List.all_append, w_t2, w_t3]
  rfl
set_option maxRecDepth 65536 in
theorem w_rest : rest_1_c.before args0 about1 = true := by decide +kernel
set_option maxRecDepth 65536 in
theorem w_case : (Jvm.Cond.and given_1 narrow_1).before args0 about1 = true := by decide +kernel
theorem w_applies : (headSpec (Jvm.Cond.code x code maxLocals ret :: tables_1) room_1).applies x e0.platform about1 = true :=
  (Spec.applies_iff w_frames).mpr ⟨w_running, w_runnable, w_alone, w_named, w_hears, w_ripe, w_room, w_tables⟩
theorem atStart : AtStart classFile x code maxLocals ret World_1 tables_1 room_1 Calls_1 rest_1 Pre_1 launch0 p0 e0 about1 theMethod args0 below0 :=
  ⟨lists_1, trivial, launch0.admits_env _ _ _, launch0.least_env, fairChoices_fair.cas, fairChoices_fair.clock, w_frames, w_args, w_heap, w_applies, trivial, w_rest, w_case⟩
end start1
theorem witness_1 : WitnessClaimed_1 := ⟨start1.p0, start1.e0, start1.about1, start1.theMethod, start1.args0, start1.below0, start1.atStart⟩
end Jvm.Pilot.@@N@@
