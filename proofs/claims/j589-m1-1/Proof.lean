import JvmDerived
import JvmDerived.Pilot.@@N@@Statement
import JvmDerived.Pilot.@@N@@Code
set_option linter.unusedVariables false
set_option linter.unusedSimpArgs false
namespace Jvm.RoadKit
open Sem ClassFile Op Lib Jvm.Stand Jvm.Free Jvm.LawKit
section New
variable {p : Program} {l : Launch} {e : Env} {R : Room} {s : State} {m : MethodId} {args : Array Value} {below : List Frame} {meth : Method} {c : Code} {T : State} {locs : List Loc} {cells slots : Nat}
theorem retI (X : Stand p l e R s m args below meth c T locs cells slots) (hx : p.tables.exec = Jvm.exec) {pc : Nat} {Ls : Array Slot} {z : Int32} {rest : List Value} (hret : meth.sig.returnType = some .int) (hd : decode c.code pc = .ok (.ireturn, 1)) {fs : List Frame}
    (hl : ∀ (f : JFrame) (acts : List Action), f.method = m → f.locked = none → f.entered = [] → (doReturn e (T.setTop f) acts (some (.int z))).1 = T.setFrames fs) : Steps p.tables e below (T.setTop (mkF m pc Ls (.int z :: rest))) (T.setFrames fs) := by
  have hm' : T.vm.method? m = some meth := X.method'
  have hn : narrow .int (.int z) = .int z := rfl
  show Steps p.tables e below (T.setTop { method := m, pc := pc, locals := Ls, stack := _ :: rest, locked := none }) _
  jvm_step X.here [X.here.top, hx, hd, hm', hret, hn]
  first | (intro acts; rw [hl _ acts rfl rfl rfl]) | rw [hl _ _ rfl rfl rfl]
  exact Steps.refl _
theorem lremM {g : JFrame} {target : State} (X : Stand p l e R s m args below meth c T locs cells slots) (hx : p.tables.exec = Jvm.exec) (hg : g.method = m) {x y : Int64} {rest : List Value} (hd : decode c.code g.pc = .ok (.lrem, 1)) (hs : g.stack = .long y :: .long x :: rest) (hy : y ≠ 0)
    (hr : Steps p.tables e below (T.setTop { g with pc := g.pc + 1, stack := .long (x % y) :: rest }) target) : Steps p.tables e below (T.setTop g) target := by
  have q : x - x / y * y = x % y := lrem_mod x y
  exact XS.lrem X.here hx hg hd hs hy (by rw [q]; exact hr)
/-- from the state t the invocation ends as Q says -/
def Done (p : Program) (e : Env) (below : List Frame) (Q : Outcome → State → Prop) (t : State) : Prop := ∃ s₂ o, Steps p.tables e below t s₂ ∧ s₂.status = .running ∧ Ended s₂ below o ∧ Q o s₂
theorem Done.of {p : Program} {e : Env} {below : List Frame} {Q : Outcome → State → Prop} {t t' : State} (h : Done p e below Q t') (k : ∀ target, Steps p.tables e below t' target → Steps p.tables e below t target) : Done p e below Q t := by
  obtain ⟨s₂, o, h1, h2⟩ := h
  exact ⟨s₂, o, k _ h1, h2⟩
end New
end Jvm.RoadKit
namespace Jvm.Pilot.@@N@@
open Jvm Jvm.ClassFile Sem Op Lib Jvm.Free Jvm.Stand Jvm.LawKit Jvm.RoadKit Bundle Jvm.Pilot.@@N@@.Jvm.D

def own_X (x y : Int64) : Int64 := if x < y then y else x
def own_N (x y : Int64) : Int64 := if y < x then y else x
theorem own_xi (x y : Int64) : (own_X x y).toInt = max x.toInt y.toInt := by
  unfold own_X
  simp only [Int64.lt_iff_toInt_lt]
  split <;> omega
theorem own_ni (x y : Int64) : (own_N x y).toInt = min x.toInt y.toInt := by
  unfold own_N
  simp only [Int64.lt_iff_toInt_lt]
  split <;> omega
theorem own_mi : (-9223372036854775808 : Int64).toInt = -9223372036854775808 := by decide
theorem own_x1 (x : Int64) : own_X x (-9223372036854775808 : Int64) = x := by
  apply Int64.toInt_inj.mp
  have := rng64 x
  rw [own_xi, own_mi]; omega
theorem own_x2 (x : Int64) : own_X (-9223372036854775808 : Int64) x = x := by
  apply Int64.toInt_inj.mp
  have := rng64 x
  rw [own_xi, own_mi]; omega
theorem own_n1 (x : Int64) : own_N x (-9223372036854775808 : Int64) = (-9223372036854775808 : Int64) := by
  apply Int64.toInt_inj.mp
  have := rng64 x
  rw [own_ni, own_mi]; omega
theorem own_n2 (x : Int64) : own_N (-9223372036854775808 : Int64) x = (-9223372036854775808 : Int64) := by
  apply Int64.toInt_inj.mp
  have := rng64 x
  rw [own_ni, own_mi]; omega
theorem own_five {i k : Int32} (h : i = ((k &&& (2147483647 : Int32)) % (5 : Int32))) : i = (0 : Int32) ∨ i = (1 : Int32) ∨ i = (2 : Int32) ∨ i = (3 : Int32) ∨ i = (4 : Int32) := by
  have h1 := c_mask k (2147483647 : Int32) 31 (by decide) (by decide)
  have h2 := (c_irem (k &&& (2147483647 : Int32)) (5 : Int32) 5 (by decide)).1 (by omega)
  simp only [← Int32.toInt_inj, show (0 : Int32).toInt = 0 from by decide, show (1 : Int32).toInt = 1 from by decide, show (2 : Int32).toInt = 2 from by decide, show (3 : Int32).toInt = 3 from by decide, show (4 : Int32).toInt = 4 from by decide]
  rw [h]
  omega
theorem d1_0 : decode jdk_29_method_66_code 0 = .ok (.lload_n 0, 1) := by decide +kernel
theorem d1_1 : decode jdk_29_method_66_code 1 = .ok (.lload_n 2, 1) := by decide +kernel
theorem d1_2 : decode jdk_29_method_66_code 2 = .ok (.lcmp, 1) := by decide +kernel
theorem d1_3 : decode jdk_29_method_66_code 3 = .ok (.ifCond .lt 7, 3) := by decide +kernel
theorem d1_6 : decode jdk_29_method_66_code 6 = .ok (.lload_n 0, 1) := by decide +kernel
theorem d1_7 : decode jdk_29_method_66_code 7 = .ok (.goto 4, 3) := by decide +kernel
theorem d1_10 : decode jdk_29_method_66_code 10 = .ok (.lload_n 2, 1) := by decide +kernel
theorem d1_11 : decode jdk_29_method_66_code 11 = .ok (.lreturn, 1) := by decide +kernel
theorem ef_1 (m : MethodId) (q0 : Int64) (q1 : Int64)  : entryFrame m #[(.long q0), (.long q1)] 4 = mkF m 0 #[.val (.long q0), .second, .val (.long q1), .second] [] := by first | (simp [entryFrame, mkF, argsToLocals, Value.category]; done) | rfl
def Q1 (Z : State) (q0 : Int64) (q1 : Int64) (h0 : Heap) (n0 : Nat) (v : Option Value) (h : Heap) (L : List Loc) : Prop := v = some (.long (own_X q0 q1)) ∧ Fr n0 L ∧ h = h0
set_option maxRecDepth 65536 in
set_option maxHeartbeats 40000000 in
theorem rm1 (l : Launch) (Z : State) (a0 : Array Value) (hw : ∀ d ∈ tables_1, d.before a0 Z = true) (ws : List Jvm.Cond) (q0 : Int64) (q1 : Int64) (h0 : Heap) (n0 : Nat) (Z0 : n0 ≤ h0.size) :
    MetFree l (⟨"java/lang/Math", "max", "(JJ)J"⟩ : MethodName) (head1 (Jvm.Cond.code (⟨"java/lang/Math", "max", "(JJ)J"⟩ : MethodName) jdk_29_method_66_code 4 (some .long) :: ws) ({ frames := 0, cells := 0, slots := 0, locals := 0 } : Room)) (fun a U => a = #[(.long q0), (.long q1)] ∧ Z.Warmed39 U.vm ∧ U.heap = h0) (fun _ _ _ _ _ => True) (fun _ U o U' => ∃ v L, o = .returned v ∧ Q1 Z q0 q1 h0 n0 v U'.heap L ∧ FrameEnd U o U' L ({ frames := 0, cells := 0, slots := 0, locals := 0 } : Room).cells ({ frames := 0, cells := 0, slots := 0, locals := 0 } : Room).slots) := by
  refine MetFree.of_bodySF (Jvm.Free.JP.mathPlain rfl (by decide +kernel)) hisR ?_
  intro p e s m args below meth c s₁ Bd hml0 hP hK
  obtain ⟨rfl, hZ, hh⟩ := hP
  have hx := Bd.exec
  have hby := Bd.bytes
  have hml : c.maxLocals = 4 := hml0
  have hown : s.vm.findClass "java/lang/Math" = some m.cls := findClass_of_methodNamed Bd.named
  have hnm := (name_of_methodNamed Bd.named Bd.method).1
  have X0 : Stand p l e ({ frames := 0, cells := 0, slots := 0, locals := 0 } : Room) s m #[(.long q0), (.long q1)] below meth c s₁ [] 0 0 := Stand.of_body Bd
  have e0 : s₁.heap = h0 := by rw [← hh, Bd.state]; rfl
  have N0 := Fr.nil n0
  have pre0 : ∀ t, Steps p.tables e below (s₁.setTop (mkF m 0 #[.val (.long q0), .second, .val (.long q1), .second] [])) t → Steps p.tables e below (s₁.setTop (entryFrame m #[(.long q0), (.long q1)] 4)) t := fun t k => castTop (ef_1 m q0 q1) k
  show Done p e below _ _
  refine Done.of ?_ pre0
  have J3_1 : ∀ wj : Int64, wj = (if q0 < q1 then q1 else q0) → ∀ target, Steps p.tables e below (s₁.setTop (mkF m 11 #[.val (.long q0), .second, .val (.long q1), .second] [(.long wj)])) target → Steps p.tables e below (s₁.setTop (mkF m 3 #[.val (.long q0), .second, .val (.long q1), .second] [(.int (lcmpW q0 q1))])) target := by
    intro wj hw0 target kt
    by_cases hj3 : q0 < q1
    · rw [if_pos hj3] at hw0
      show Steps p.tables e below (s₁.setTop (mkF m 3 #[.val (.long q0), .second, .val (.long q1), .second] [(.int (lcmpW q0 q1))])) _
      refine XS.ifYes X0.here hx rfl (pc0 := 3) (pc' := 10) rfl (hb hby d1_3) rfl ((if0 _ _).trans (tlt ((lw_lt q0 q1).mpr hj3)).1) (by decide) (by decide) ?_
      show Steps p.tables e below (s₁.setTop (mkF m 10 #[.val (.long q0), .second, .val (.long q1), .second] [])) _
      refine XS.lloadN X0.here hx rfl (hb hby d1_10) rfl ?_
      rw [hw0] at kt
      exact kt
    · rw [if_neg hj3] at hw0
      show Steps p.tables e below (s₁.setTop (mkF m 3 #[.val (.long q0), .second, .val (.long q1), .second] [(.int (lcmpW q0 q1))])) _
      refine XS.ifNo X0.here hx rfl (hb hby d1_3) rfl ((if0 _ _).trans (flt (fun q => hj3 ((lw_lt q0 q1).mp q))).1) ?_
      show Steps p.tables e below (s₁.setTop (mkF m 6 #[.val (.long q0), .second, .val (.long q1), .second] [])) _
      refine XS.lloadN X0.here hx rfl (hb hby d1_6) rfl ?_
      show Steps p.tables e below (s₁.setTop (mkF m 7 #[.val (.long q0), .second, .val (.long q1), .second] [(.long q0)])) _
      refine XS.goto X0.here hx rfl (pc0 := 7) (pc' := 11) rfl (hb hby d1_7) (by decide) (by decide) ?_
      rw [hw0] at kt
      exact kt
  obtain ⟨fs, hr, hrun, hended, hW, hsame⟩ := X0.leave (v := some (.long (if q0 < q1 then q1 else q0))) (fun h => by rw [Bd.returns] at h; cases h)
  refine ⟨_, _, ?_, hrun, hended, _, _, rfl, ?_, ⟨_, rfl⟩, hW, hsame.mono (by decide) (by decide)⟩
  · show Steps p.tables e below (s₁.setTop (mkF m 0 #[.val (.long q0), .second, .val (.long q1), .second] [])) _
    refine XS.lloadN X0.here hx rfl (hb hby d1_0) rfl ?_
    show Steps p.tables e below (s₁.setTop (mkF m 1 #[.val (.long q0), .second, .val (.long q1), .second] [(.long q0)])) _
    refine XS.lloadN X0.here hx rfl (hb hby d1_1) rfl ?_
    show Steps p.tables e below (s₁.setTop (mkF m 2 #[.val (.long q0), .second, .val (.long q1), .second] [(.long q1), (.long q0)])) _
    refine XS.lcmp X0.here hx rfl (hb hby d1_2) rfl ?_
    show Steps p.tables e below (s₁.setTop (mkF m 3 #[.val (.long q0), .second, .val (.long q1), .second] [(.int (lcmpW q0 q1))])) _
    refine J3_1 _ rfl _ ?_
    show Steps p.tables e below (s₁.setTop (mkF m 11 #[.val (.long q0), .second, .val (.long q1), .second] [(.long (if q0 < q1 then q1 else q0))])) _
    jvm_step X0.here [X0.here.top, hx, (hb hby d1_11), X0.method', Bd.returns, narrow]
    first | (intro acts; rw [hr _ acts rfl rfl rfl]) | rw [hr _ _ rfl rfl rfl]
    exact Steps.refl _
  · show Q1 Z q0 q1  h0 n0 _ s₁.heap _
    rw [e0]
    refine ⟨?_, N0, rfl⟩
    rfl
theorem d2_0 : decode jdk_29_method_70_code 0 = .ok (.lload_n 0, 1) := by decide +kernel
theorem d2_1 : decode jdk_29_method_70_code 1 = .ok (.lload_n 2, 1) := by decide +kernel
theorem d2_2 : decode jdk_29_method_70_code 2 = .ok (.lcmp, 1) := by decide +kernel
theorem d2_3 : decode jdk_29_method_70_code 3 = .ok (.ifCond .gt 7, 3) := by decide +kernel
theorem d2_6 : decode jdk_29_method_70_code 6 = .ok (.lload_n 0, 1) := by decide +kernel
theorem d2_7 : decode jdk_29_method_70_code 7 = .ok (.goto 4, 3) := by decide +kernel
theorem d2_10 : decode jdk_29_method_70_code 10 = .ok (.lload_n 2, 1) := by decide +kernel
theorem d2_11 : decode jdk_29_method_70_code 11 = .ok (.lreturn, 1) := by decide +kernel
theorem ef_2 (m : MethodId) (q0 : Int64) (q1 : Int64)  : entryFrame m #[(.long q0), (.long q1)] 4 = mkF m 0 #[.val (.long q0), .second, .val (.long q1), .second] [] := by first | (simp [entryFrame, mkF, argsToLocals, Value.category]; done) | rfl
def Q2 (Z : State) (q0 : Int64) (q1 : Int64) (h0 : Heap) (n0 : Nat) (v : Option Value) (h : Heap) (L : List Loc) : Prop := v = some (.long (own_N q0 q1)) ∧ Fr n0 L ∧ h = h0
set_option maxRecDepth 65536 in
set_option maxHeartbeats 40000000 in
theorem rm2 (l : Launch) (Z : State) (a0 : Array Value) (hw : ∀ d ∈ tables_1, d.before a0 Z = true) (ws : List Jvm.Cond) (q0 : Int64) (q1 : Int64) (h0 : Heap) (n0 : Nat) (Z0 : n0 ≤ h0.size) :
    MetFree l (⟨"java/lang/Math", "min", "(JJ)J"⟩ : MethodName) (head1 (Jvm.Cond.code (⟨"java/lang/Math", "min", "(JJ)J"⟩ : MethodName) jdk_29_method_70_code 4 (some .long) :: ws) ({ frames := 0, cells := 0, slots := 0, locals := 0 } : Room)) (fun a U => a = #[(.long q0), (.long q1)] ∧ Z.Warmed39 U.vm ∧ U.heap = h0) (fun _ _ _ _ _ => True) (fun _ U o U' => ∃ v L, o = .returned v ∧ Q2 Z q0 q1 h0 n0 v U'.heap L ∧ FrameEnd U o U' L ({ frames := 0, cells := 0, slots := 0, locals := 0 } : Room).cells ({ frames := 0, cells := 0, slots := 0, locals := 0 } : Room).slots) := by
  refine MetFree.of_bodySF (Jvm.Free.JP.mathPlain rfl (by decide +kernel)) hisR ?_
  intro p e s m args below meth c s₁ Bd hml0 hP hK
  obtain ⟨rfl, hZ, hh⟩ := hP
  have hx := Bd.exec
  have hby := Bd.bytes
  have hml : c.maxLocals = 4 := hml0
  have hown : s.vm.findClass "java/lang/Math" = some m.cls := findClass_of_methodNamed Bd.named
  have hnm := (name_of_methodNamed Bd.named Bd.method).1
  have X0 : Stand p l e ({ frames := 0, cells := 0, slots := 0, locals := 0 } : Room) s m #[(.long q0), (.long q1)] below meth c s₁ [] 0 0 := Stand.of_body Bd
  have e0 : s₁.heap = h0 := by rw [← hh, Bd.state]; rfl
  have N0 := Fr.nil n0
  have pre0 : ∀ t, Steps p.tables e below (s₁.setTop (mkF m 0 #[.val (.long q0), .second, .val (.long q1), .second] [])) t → Steps p.tables e below (s₁.setTop (entryFrame m #[(.long q0), (.long q1)] 4)) t := fun t k => castTop (ef_2 m q0 q1) k
  show Done p e below _ _
  refine Done.of ?_ pre0
  have J3_1 : ∀ wj : Int64, wj = (if q1 < q0 then q1 else q0) → ∀ target, Steps p.tables e below (s₁.setTop (mkF m 11 #[.val (.long q0), .second, .val (.long q1), .second] [(.long wj)])) target → Steps p.tables e below (s₁.setTop (mkF m 3 #[.val (.long q0), .second, .val (.long q1), .second] [(.int (lcmpW q0 q1))])) target := by
    intro wj hw0 target kt
    by_cases hj3 : q1 < q0
    · rw [if_pos hj3] at hw0
      show Steps p.tables e below (s₁.setTop (mkF m 3 #[.val (.long q0), .second, .val (.long q1), .second] [(.int (lcmpW q0 q1))])) _
      refine XS.ifYes X0.here hx rfl (pc0 := 3) (pc' := 10) rfl (hb hby d2_3) rfl ((if0 _ _).trans (tlt ((lw_gt q0 q1).mpr hj3)).2.2.1) (by decide) (by decide) ?_
      show Steps p.tables e below (s₁.setTop (mkF m 10 #[.val (.long q0), .second, .val (.long q1), .second] [])) _
      refine XS.lloadN X0.here hx rfl (hb hby d2_10) rfl ?_
      rw [hw0] at kt
      exact kt
    · rw [if_neg hj3] at hw0
      show Steps p.tables e below (s₁.setTop (mkF m 3 #[.val (.long q0), .second, .val (.long q1), .second] [(.int (lcmpW q0 q1))])) _
      refine XS.ifNo X0.here hx rfl (hb hby d2_3) rfl ((if0 _ _).trans (flt (fun q => hj3 ((lw_gt q0 q1).mp q))).2.2.1) ?_
      show Steps p.tables e below (s₁.setTop (mkF m 6 #[.val (.long q0), .second, .val (.long q1), .second] [])) _
      refine XS.lloadN X0.here hx rfl (hb hby d2_6) rfl ?_
      show Steps p.tables e below (s₁.setTop (mkF m 7 #[.val (.long q0), .second, .val (.long q1), .second] [(.long q0)])) _
      refine XS.goto X0.here hx rfl (pc0 := 7) (pc' := 11) rfl (hb hby d2_7) (by decide) (by decide) ?_
      rw [hw0] at kt
      exact kt
  obtain ⟨fs, hr, hrun, hended, hW, hsame⟩ := X0.leave (v := some (.long (if q1 < q0 then q1 else q0))) (fun h => by rw [Bd.returns] at h; cases h)
  refine ⟨_, _, ?_, hrun, hended, _, _, rfl, ?_, ⟨_, rfl⟩, hW, hsame.mono (by decide) (by decide)⟩
  · show Steps p.tables e below (s₁.setTop (mkF m 0 #[.val (.long q0), .second, .val (.long q1), .second] [])) _
    refine XS.lloadN X0.here hx rfl (hb hby d2_0) rfl ?_
    show Steps p.tables e below (s₁.setTop (mkF m 1 #[.val (.long q0), .second, .val (.long q1), .second] [(.long q0)])) _
    refine XS.lloadN X0.here hx rfl (hb hby d2_1) rfl ?_
    show Steps p.tables e below (s₁.setTop (mkF m 2 #[.val (.long q0), .second, .val (.long q1), .second] [(.long q1), (.long q0)])) _
    refine XS.lcmp X0.here hx rfl (hb hby d2_2) rfl ?_
    show Steps p.tables e below (s₁.setTop (mkF m 3 #[.val (.long q0), .second, .val (.long q1), .second] [(.int (lcmpW q0 q1))])) _
    refine J3_1 _ rfl _ ?_
    show Steps p.tables e below (s₁.setTop (mkF m 11 #[.val (.long q0), .second, .val (.long q1), .second] [(.long (if q1 < q0 then q1 else q0))])) _
    jvm_step X0.here [X0.here.top, hx, (hb hby d2_11), X0.method', Bd.returns, narrow]
    first | (intro acts; rw [hr _ acts rfl rfl rfl]) | rw [hr _ _ rfl rfl rfl]
    exact Steps.refl _
  · show Q2 Z q0 q1  h0 n0 _ s₁.heap _
    rw [e0]
    refine ⟨?_, N0, rfl⟩
    rfl
theorem d3_0 : decode prog_84_method_3_code 0 = .ok (.iconst 1, 1) := by decide +kernel
theorem d3_1 : decode prog_84_method_3_code 1 = .ok (.istore_n 1, 1) := by decide +kernel
theorem d3_2 : decode prog_84_method_3_code 2 = .ok (.iload_n 1, 1) := by decide +kernel
theorem d3_3 : decode prog_84_method_3_code 3 = .ok (.aload_n 0, 1) := by decide +kernel
theorem d3_4 : decode prog_84_method_3_code 4 = .ok (.arraylength, 1) := by decide +kernel
theorem d3_5 : decode prog_84_method_3_code 5 = .ok (.if_icmp .ge 55, 3) := by decide +kernel
theorem d3_60 : decode prog_84_method_3_code 60 = .ok (.return_, 1) := by decide +kernel
theorem pn_3 : plainName "com/example/firepick/firepick/TimeTags" = true := by first | (simp [plainName, overriddenIn]; done) | decide +kernel
theorem ef_3n0 (m : MethodId) (u0 : Addr)  : entryFrame m #[(.ref u0)] 5 = mkF m 0 #[.val (.ref u0), .unset, .unset, .unset, .unset] [] := by first | (simp [entryFrame, mkF, argsToLocals, Value.category]; done) | rfl
def Q3n0 (Z : State) (u0 : Addr) (kA : ClassId) (dv : Value) (h0 : Heap) (n0 : Nat) (v : Option Value) (h : Heap) (L : List Loc) : Prop := v = none ∧ Fr n0 L ∧ Keep h0 h [u0] ∧ Arv Z h u0 kA .long (0 : Int32) [] dv
set_option maxRecDepth 65536 in
set_option maxHeartbeats 40000000 in
theorem rm3n0 (l : Launch) (Z : State) (a0 : Array Value) (hw : ∀ d ∈ tables_1, d.before a0 Z = true) (ws : List Jvm.Cond) (u0 : Addr) (kA : ClassId) (dv : Value) (h0 : Heap) (n0 : Nat) (Z0 : n0 ≤ h0.size) (V0 : Arv Z h0 u0 kA .long (0 : Int32) [] dv) (g0 : n0 ≤ u0) :
    MetFree l (⟨"com/example/firepick/firepick/TimeTags", "rank", "([J)V"⟩ : MethodName) (head1 (Jvm.Cond.code (⟨"com/example/firepick/firepick/TimeTags", "rank", "([J)V"⟩ : MethodName) prog_84_method_3_code 5 none :: ws) ({ frames := 0, cells := 0, slots := 0, locals := 0 } : Room)) (fun a U => a = #[(.ref u0)] ∧ Z.Warmed39 U.vm ∧ U.heap = h0) (fun _ _ _ _ _ => True) (fun _ U o U' => ∃ v L, o = .returned v ∧ Q3n0 Z u0 kA dv h0 n0 v U'.heap L ∧ FrameEnd U o U' L ({ frames := 0, cells := 0, slots := 0, locals := 0 } : Room).cells ({ frames := 0, cells := 0, slots := 0, locals := 0 } : Room).slots) := by
  refine MetFree.of_bodySF (plainFor_of_name pn_3) hisR ?_
  intro p e s m args below meth c s₁ Bd hml0 hP hK
  obtain ⟨rfl, hZ, hh⟩ := hP
  have hx := Bd.exec
  have hby := Bd.bytes
  have hml : c.maxLocals = 5 := hml0
  have hown : s.vm.findClass "com/example/firepick/firepick/TimeTags" = some m.cls := findClass_of_methodNamed Bd.named
  have hnm := (name_of_methodNamed Bd.named Bd.method).1
  have X0 : Stand p l e ({ frames := 0, cells := 0, slots := 0, locals := 0 } : Room) s m #[(.ref u0)] below meth c s₁ [] 0 0 := Stand.of_body Bd
  have e0 : s₁.heap = h0 := by rw [← hh, Bd.state]; rfl
  have N0 := Fr.nil n0
  have pre0 : ∀ t, Steps p.tables e below (s₁.setTop (mkF m 0 #[.val (.ref u0), .unset, .unset, .unset, .unset] [])) t → Steps p.tables e below (s₁.setTop (entryFrame m #[(.ref u0)] 5)) t := fun t k => castTop (ef_3n0 m u0) k
  show Done p e below _ _
  refine Done.of ?_ pre0
  obtain ⟨cl1, Ar1, qq1, S1, M1, H1, G1⟩ := id V0
  obtain ⟨fs, hr, hrun, hended, hW, hsame⟩ := X0.leave (v := none) (fun _ => rfl)
  refine ⟨_, _, ?_, hrun, hended, _, _, rfl, ?_, ⟨_, rfl⟩, hW, hsame.mono (by decide) (by decide)⟩
  · show Steps p.tables e below (s₁.setTop (mkF m 0 #[.val (.ref u0), .unset, .unset, .unset, .unset] [])) _
    refine XS.iconst X0.here hx rfl (hb hby d3_0) ?_
    show Steps p.tables e below (s₁.setTop (mkF m 1 #[.val (.ref u0), .unset, .unset, .unset, .unset] [(.int (1 : Int32))])) _
    refine XS.istoreN X0.here hx rfl (hb hby d3_1) rfl (l' := #[.val (.ref u0), .val (.int (1 : Int32)), .unset, .unset, .unset]) rfl ?_
    show Steps p.tables e below (s₁.setTop (mkF m 2 #[.val (.ref u0), .val (.int (1 : Int32)), .unset, .unset, .unset] [])) _
    refine XS.iloadN X0.here hx rfl (hb hby d3_2) rfl ?_
    show Steps p.tables e below (s₁.setTop (mkF m 3 #[.val (.ref u0), .val (.int (1 : Int32)), .unset, .unset, .unset] [(.int (1 : Int32))])) _
    refine XS.aloadN X0.here hx rfl (hb hby d3_3) rfl rfl ?_
    show Steps p.tables e below (s₁.setTop (mkF m 4 #[.val (.ref u0), .val (.int (1 : Int32)), .unset, .unset, .unset] [(.ref u0), (.int (1 : Int32))])) _
    refine X0.arraylength hx (by rw [e0]; exact Ar1.1) (State.isArrayOf_alike hZ.alike Ar1.2.1) (g := (mkF m 4 #[.val (.ref u0), .val (.int (1 : Int32)), .unset, .unset, .unset] [(.ref u0), (.int (1 : Int32))])) rfl rfl (hb hby d3_4) _ ?_
    rw [len_of S1 M1]
    show Steps p.tables e below (s₁.setTop (mkF m 5 #[.val (.ref u0), .val (.int (1 : Int32)), .unset, .unset, .unset] [(.int (0 : Int32)), (.int (1 : Int32))])) _
    refine XS.icmpYes X0.here hx rfl (pc0 := 5) (pc' := 60) rfl (hb hby d3_5) rfl (flt (by decide : ¬ ((1 : Int32) < (0 : Int32)))).2.1 (by decide) (by decide) ?_
    show Steps p.tables e below (s₁.setTop (mkF m 60 #[.val (.ref u0), .val (.int (1 : Int32)), .unset, .unset, .unset] [])) _
    exact X0.returnOut hx Bd.returns (hb hby d3_60) hr
  · show Q3n0 Z u0 kA dv h0 n0 _ s₁.heap _
    rw [e0]
    refine ⟨rfl, N0, (Keep.refl h0 [u0]), ?_⟩
    exact V0
theorem ef_3n1 (m : MethodId) (u0 : Addr)  : entryFrame m #[(.ref u0)] 5 = mkF m 0 #[.val (.ref u0), .unset, .unset, .unset, .unset] [] := by first | (simp [entryFrame, mkF, argsToLocals, Value.category]; done) | rfl
def Q3n1 (Z : State) (u0 : Addr) (kA : ClassId) (dv : Value) (c0 : Int64) (h0 : Heap) (n0 : Nat) (v : Option Value) (h : Heap) (L : List Loc) : Prop := v = none ∧ Fr n0 L ∧ Keep h0 h [u0] ∧ Arv Z h u0 kA .long (1 : Int32) [(.long c0)] dv
set_option maxRecDepth 65536 in
set_option maxHeartbeats 40000000 in
theorem rm3n1 (l : Launch) (Z : State) (a0 : Array Value) (hw : ∀ d ∈ tables_1, d.before a0 Z = true) (ws : List Jvm.Cond) (u0 : Addr) (kA : ClassId) (dv : Value) (c0 : Int64) (h0 : Heap) (n0 : Nat) (Z0 : n0 ≤ h0.size) (V0 : Arv Z h0 u0 kA .long (1 : Int32) [(.long c0)] dv) (g0 : n0 ≤ u0) :
    MetFree l (⟨"com/example/firepick/firepick/TimeTags", "rank", "([J)V"⟩ : MethodName) (head1 (Jvm.Cond.code (⟨"com/example/firepick/firepick/TimeTags", "rank", "([J)V"⟩ : MethodName) prog_84_method_3_code 5 none :: ws) ({ frames := 0, cells := 0, slots := 0, locals := 0 } : Room)) (fun a U => a = #[(.ref u0)] ∧ Z.Warmed39 U.vm ∧ U.heap = h0) (fun _ _ _ _ _ => True) (fun _ U o U' => ∃ v L, o = .returned v ∧ Q3n1 Z u0 kA dv c0 h0 n0 v U'.heap L ∧ FrameEnd U o U' L ({ frames := 0, cells := 0, slots := 0, locals := 0 } : Room).cells ({ frames := 0, cells := 0, slots := 0, locals := 0 } : Room).slots) := by
  refine MetFree.of_bodySF (plainFor_of_name pn_3) hisR ?_
  intro p e s m args below meth c s₁ Bd hml0 hP hK
  obtain ⟨rfl, hZ, hh⟩ := hP
  have hx := Bd.exec
  have hby := Bd.bytes
  have hml : c.maxLocals = 5 := hml0
  have hown : s.vm.findClass "com/example/firepick/firepick/TimeTags" = some m.cls := findClass_of_methodNamed Bd.named
  have hnm := (name_of_methodNamed Bd.named Bd.method).1
  have X0 : Stand p l e ({ frames := 0, cells := 0, slots := 0, locals := 0 } : Room) s m #[(.ref u0)] below meth c s₁ [] 0 0 := Stand.of_body Bd
  have e0 : s₁.heap = h0 := by rw [← hh, Bd.state]; rfl
  have N0 := Fr.nil n0
  have pre0 : ∀ t, Steps p.tables e below (s₁.setTop (mkF m 0 #[.val (.ref u0), .unset, .unset, .unset, .unset] [])) t → Steps p.tables e below (s₁.setTop (entryFrame m #[(.ref u0)] 5)) t := fun t k => castTop (ef_3n1 m u0) k
  show Done p e below _ _
  refine Done.of ?_ pre0
  obtain ⟨cl1, Ar1, qq1, S1, M1, H1, G1⟩ := id V0
  obtain ⟨fs, hr, hrun, hended, hW, hsame⟩ := X0.leave (v := none) (fun _ => rfl)
  refine ⟨_, _, ?_, hrun, hended, _, _, rfl, ?_, ⟨_, rfl⟩, hW, hsame.mono (by decide) (by decide)⟩
  · show Steps p.tables e below (s₁.setTop (mkF m 0 #[.val (.ref u0), .unset, .unset, .unset, .unset] [])) _
    refine XS.iconst X0.here hx rfl (hb hby d3_0) ?_
    show Steps p.tables e below (s₁.setTop (mkF m 1 #[.val (.ref u0), .unset, .unset, .unset, .unset] [(.int (1 : Int32))])) _
    refine XS.istoreN X0.here hx rfl (hb hby d3_1) rfl (l' := #[.val (.ref u0), .val (.int (1 : Int32)), .unset, .unset, .unset]) rfl ?_
    show Steps p.tables e below (s₁.setTop (mkF m 2 #[.val (.ref u0), .val (.int (1 : Int32)), .unset, .unset, .unset] [])) _
    refine XS.iloadN X0.here hx rfl (hb hby d3_2) rfl ?_
    show Steps p.tables e below (s₁.setTop (mkF m 3 #[.val (.ref u0), .val (.int (1 : Int32)), .unset, .unset, .unset] [(.int (1 : Int32))])) _
    refine XS.aloadN X0.here hx rfl (hb hby d3_3) rfl rfl ?_
    show Steps p.tables e below (s₁.setTop (mkF m 4 #[.val (.ref u0), .val (.int (1 : Int32)), .unset, .unset, .unset] [(.ref u0), (.int (1 : Int32))])) _
    refine X0.arraylength hx (by rw [e0]; exact Ar1.1) (State.isArrayOf_alike hZ.alike Ar1.2.1) (g := (mkF m 4 #[.val (.ref u0), .val (.int (1 : Int32)), .unset, .unset, .unset] [(.ref u0), (.int (1 : Int32))])) rfl rfl (hb hby d3_4) _ ?_
    rw [len_of S1 M1]
    show Steps p.tables e below (s₁.setTop (mkF m 5 #[.val (.ref u0), .val (.int (1 : Int32)), .unset, .unset, .unset] [(.int (1 : Int32)), (.int (1 : Int32))])) _
    refine XS.icmpYes X0.here hx rfl (pc0 := 5) (pc' := 60) rfl (hb hby d3_5) rfl (flt (by decide : ¬ ((1 : Int32) < (1 : Int32)))).2.1 (by decide) (by decide) ?_
    show Steps p.tables e below (s₁.setTop (mkF m 60 #[.val (.ref u0), .val (.int (1 : Int32)), .unset, .unset, .unset] [])) _
    exact X0.returnOut hx Bd.returns (hb hby d3_60) hr
  · show Q3n1 Z u0 kA dv c0 h0 n0 _ s₁.heap _
    rw [e0]
    refine ⟨rfl, N0, (Keep.refl h0 [u0]), ?_⟩
    exact V0
theorem d3_8 : decode prog_84_method_3_code 8 = .ok (.aload_n 0, 1) := by decide +kernel
theorem d3_9 : decode prog_84_method_3_code 9 = .ok (.iload_n 1, 1) := by decide +kernel
theorem d3_10 : decode prog_84_method_3_code 10 = .ok (.laload, 1) := by decide +kernel
theorem d3_11 : decode prog_84_method_3_code 11 = .ok (.lstore_n 2, 1) := by decide +kernel
theorem d3_12 : decode prog_84_method_3_code 12 = .ok (.iload_n 1, 1) := by decide +kernel
theorem d3_13 : decode prog_84_method_3_code 13 = .ok (.iconst 1, 1) := by decide +kernel
theorem d3_14 : decode prog_84_method_3_code 14 = .ok (.isub, 1) := by decide +kernel
theorem d3_15 : decode prog_84_method_3_code 15 = .ok (.istore 4, 2) := by decide +kernel
theorem d3_17 : decode prog_84_method_3_code 17 = .ok (.iload 4, 2) := by decide +kernel
theorem d3_19 : decode prog_84_method_3_code 19 = .ok (.ifCond .lt 28, 3) := by decide +kernel
theorem d3_22 : decode prog_84_method_3_code 22 = .ok (.aload_n 0, 1) := by decide +kernel
theorem d3_23 : decode prog_84_method_3_code 23 = .ok (.iload 4, 2) := by decide +kernel
theorem d3_25 : decode prog_84_method_3_code 25 = .ok (.laload, 1) := by decide +kernel
theorem d3_26 : decode prog_84_method_3_code 26 = .ok (.lload_n 2, 1) := by decide +kernel
theorem d3_27 : decode prog_84_method_3_code 27 = .ok (.lcmp, 1) := by decide +kernel
theorem d3_28 : decode prog_84_method_3_code 28 = .ok (.ifCond .ge 19, 3) := by decide +kernel
theorem d3_31 : decode prog_84_method_3_code 31 = .ok (.aload_n 0, 1) := by decide +kernel
theorem d3_32 : decode prog_84_method_3_code 32 = .ok (.iload 4, 2) := by decide +kernel
theorem d3_34 : decode prog_84_method_3_code 34 = .ok (.iconst 1, 1) := by decide +kernel
theorem d3_35 : decode prog_84_method_3_code 35 = .ok (.iadd, 1) := by decide +kernel
theorem d3_36 : decode prog_84_method_3_code 36 = .ok (.aload_n 0, 1) := by decide +kernel
theorem d3_37 : decode prog_84_method_3_code 37 = .ok (.iload 4, 2) := by decide +kernel
theorem d3_39 : decode prog_84_method_3_code 39 = .ok (.laload, 1) := by decide +kernel
theorem d3_40 : decode prog_84_method_3_code 40 = .ok (.lastore, 1) := by decide +kernel
theorem d3_41 : decode prog_84_method_3_code 41 = .ok (.iinc 4 (-1), 3) := by decide +kernel
theorem d3_44 : decode prog_84_method_3_code 44 = .ok (.goto (-27), 3) := by decide +kernel
theorem d3_47 : decode prog_84_method_3_code 47 = .ok (.aload_n 0, 1) := by decide +kernel
theorem d3_48 : decode prog_84_method_3_code 48 = .ok (.iload 4, 2) := by decide +kernel
theorem d3_50 : decode prog_84_method_3_code 50 = .ok (.iconst 1, 1) := by decide +kernel
theorem d3_51 : decode prog_84_method_3_code 51 = .ok (.iadd, 1) := by decide +kernel
theorem d3_52 : decode prog_84_method_3_code 52 = .ok (.lload_n 2, 1) := by decide +kernel
theorem d3_53 : decode prog_84_method_3_code 53 = .ok (.lastore, 1) := by decide +kernel
theorem d3_54 : decode prog_84_method_3_code 54 = .ok (.iinc 1 1, 3) := by decide +kernel
theorem d3_57 : decode prog_84_method_3_code 57 = .ok (.goto (-55), 3) := by decide +kernel
theorem ef_3n2 (m : MethodId) (u0 : Addr)  : entryFrame m #[(.ref u0)] 5 = mkF m 0 #[.val (.ref u0), .unset, .unset, .unset, .unset] [] := by first | (simp [entryFrame, mkF, argsToLocals, Value.category]; done) | rfl
def Q3n2 (Z : State) (u0 : Addr) (kA : ClassId) (dv : Value) (c0 : Int64) (c1 : Int64) (h0 : Heap) (n0 : Nat) (v : Option Value) (h : Heap) (L : List Loc) : Prop := v = none ∧ Fr n0 L ∧ Keep h0 h [u0] ∧ Arv Z h u0 kA .long (2 : Int32) [(.long (own_X c0 c1)), (.long (own_N c0 c1))] dv
set_option maxRecDepth 65536 in
set_option maxHeartbeats 40000000 in
theorem rm3n2 (l : Launch) (Z : State) (a0 : Array Value) (hw : ∀ d ∈ tables_1, d.before a0 Z = true) (ws : List Jvm.Cond) (u0 : Addr) (kA : ClassId) (dv : Value) (c0 : Int64) (c1 : Int64) (h0 : Heap) (n0 : Nat) (Z0 : n0 ≤ h0.size) (V0 : Arv Z h0 u0 kA .long (2 : Int32) [(.long c0), (.long c1)] dv) (g0 : n0 ≤ u0) :
    MetFree l (⟨"com/example/firepick/firepick/TimeTags", "rank", "([J)V"⟩ : MethodName) (head1 (Jvm.Cond.code (⟨"com/example/firepick/firepick/TimeTags", "rank", "([J)V"⟩ : MethodName) prog_84_method_3_code 5 none :: ws) ({ frames := 0, cells := 0, slots := 0, locals := 0 } : Room)) (fun a U => a = #[(.ref u0)] ∧ Z.Warmed39 U.vm ∧ U.heap = h0) (fun _ _ _ _ _ => True) (fun _ U o U' => ∃ v L, o = .returned v ∧ Q3n2 Z u0 kA dv c0 c1 h0 n0 v U'.heap L ∧ FrameEnd U o U' L ({ frames := 0, cells := 0, slots := 0, locals := 0 } : Room).cells ({ frames := 0, cells := 0, slots := 0, locals := 0 } : Room).slots) := by
  refine MetFree.of_bodySF (plainFor_of_name pn_3) hisR ?_
  intro p e s m args below meth c s₁ Bd hml0 hP hK
  obtain ⟨rfl, hZ, hh⟩ := hP
  have hx := Bd.exec
  have hby := Bd.bytes
  have hml : c.maxLocals = 5 := hml0
  have hown : s.vm.findClass "com/example/firepick/firepick/TimeTags" = some m.cls := findClass_of_methodNamed Bd.named
  have hnm := (name_of_methodNamed Bd.named Bd.method).1
  have X0 : Stand p l e ({ frames := 0, cells := 0, slots := 0, locals := 0 } : Room) s m #[(.ref u0)] below meth c s₁ [] 0 0 := Stand.of_body Bd
  have e0 : s₁.heap = h0 := by rw [← hh, Bd.state]; rfl
  have N0 := Fr.nil n0
  have pre0 : ∀ t, Steps p.tables e below (s₁.setTop (mkF m 0 #[.val (.ref u0), .unset, .unset, .unset, .unset] [])) t → Steps p.tables e below (s₁.setTop (entryFrame m #[(.ref u0)] 5)) t := fun t k => castTop (ef_3n2 m u0) k
  show Done p e below _ _
  refine Done.of ?_ pre0
  obtain ⟨cl1, Ar1, qq1, S1, M1, H1, G1⟩ := id V0
  obtain ⟨cl2, Ar2, qq2, S2, M2, H2, G2⟩ := id V0
  have hin2 : ¬ ((1 : Int32) < 0 ∨ cl2.slots.size ≤ ((1 : Int32)).toNatClampNeg) := inb_of S2 ⟨by decide, by decide⟩
  have hat2 : cl2.slots[((1 : Int32)).toNatClampNeg]? = some (.long c1) := H2 1 (by rw [S2]; decide)
  obtain ⟨cl3, Ar3, qq3, S3, M3, H3, G3⟩ := id V0
  have hin3 : ¬ ((0 : Int32) < 0 ∨ cl3.slots.size ≤ ((0 : Int32)).toNatClampNeg) := inb_of S3 ⟨by decide, by decide⟩
  have hat3 : cl3.slots[((0 : Int32)).toNatClampNeg]? = some (.long c0) := H3 0 (by rw [S3]; decide)
  have K4 : ∀ target, Steps p.tables e below (s₁.setTop (mkF m 28 #[.val (.ref u0), .val (.int (1 : Int32)), .val (.long c1), .second, .val (.int (0 : Int32))] [(.int (lcmpW c0 c1))])) target → Steps p.tables e below (s₁.setTop (mkF m 0 #[.val (.ref u0), .unset, .unset, .unset, .unset] [])) target := by
    intro target kt
    show Steps p.tables e below (s₁.setTop (mkF m 0 #[.val (.ref u0), .unset, .unset, .unset, .unset] [])) _
    refine XS.iconst X0.here hx rfl (hb hby d3_0) ?_
    show Steps p.tables e below (s₁.setTop (mkF m 1 #[.val (.ref u0), .unset, .unset, .unset, .unset] [(.int (1 : Int32))])) _
    refine XS.istoreN X0.here hx rfl (hb hby d3_1) rfl (l' := #[.val (.ref u0), .val (.int (1 : Int32)), .unset, .unset, .unset]) rfl ?_
    show Steps p.tables e below (s₁.setTop (mkF m 2 #[.val (.ref u0), .val (.int (1 : Int32)), .unset, .unset, .unset] [])) _
    refine XS.iloadN X0.here hx rfl (hb hby d3_2) rfl ?_
    show Steps p.tables e below (s₁.setTop (mkF m 3 #[.val (.ref u0), .val (.int (1 : Int32)), .unset, .unset, .unset] [(.int (1 : Int32))])) _
    refine XS.aloadN X0.here hx rfl (hb hby d3_3) rfl rfl ?_
    show Steps p.tables e below (s₁.setTop (mkF m 4 #[.val (.ref u0), .val (.int (1 : Int32)), .unset, .unset, .unset] [(.ref u0), (.int (1 : Int32))])) _
    refine X0.arraylength hx (by rw [e0]; exact Ar1.1) (State.isArrayOf_alike hZ.alike Ar1.2.1) (g := (mkF m 4 #[.val (.ref u0), .val (.int (1 : Int32)), .unset, .unset, .unset] [(.ref u0), (.int (1 : Int32))])) rfl rfl (hb hby d3_4) _ ?_
    rw [len_of S1 M1]
    show Steps p.tables e below (s₁.setTop (mkF m 5 #[.val (.ref u0), .val (.int (1 : Int32)), .unset, .unset, .unset] [(.int (2 : Int32)), (.int (1 : Int32))])) _
    refine XS.icmpNo X0.here hx rfl (hb hby d3_5) rfl (tlt (by decide : (1 : Int32) < (2 : Int32))).2.1 ?_
    show Steps p.tables e below (s₁.setTop (mkF m 8 #[.val (.ref u0), .val (.int (1 : Int32)), .unset, .unset, .unset] [])) _
    refine XS.aloadN X0.here hx rfl (hb hby d3_8) rfl rfl ?_
    show Steps p.tables e below (s₁.setTop (mkF m 9 #[.val (.ref u0), .val (.int (1 : Int32)), .unset, .unset, .unset] [(.ref u0)])) _
    refine XS.iloadN X0.here hx rfl (hb hby d3_9) rfl ?_
    show Steps p.tables e below (s₁.setTop (mkF m 10 #[.val (.ref u0), .val (.int (1 : Int32)), .unset, .unset, .unset] [(.int (1 : Int32)), (.ref u0)])) _
    refine X0.laload hx (j := (1 : Int32)) (v := (.long c1)) (by rw [e0]; exact Ar2.1) (State.isArrayOf_alike hZ.alike Ar2.2.1) Ar2.2.2 hin2 hat2 (g := (mkF m 10 #[.val (.ref u0), .val (.int (1 : Int32)), .unset, .unset, .unset] [(.int (1 : Int32)), (.ref u0)])) rfl rfl (hb hby d3_10) _ ?_
    show Steps p.tables e below (s₁.setTop (mkF m 11 #[.val (.ref u0), .val (.int (1 : Int32)), .unset, .unset, .unset] [(.long c1)])) _
    refine XS.lstoreN X0.here hx rfl (hb hby d3_11) rfl (l' := #[.val (.ref u0), .val (.int (1 : Int32)), .val (.long c1), .second, .unset]) rfl ?_
    show Steps p.tables e below (s₁.setTop (mkF m 12 #[.val (.ref u0), .val (.int (1 : Int32)), .val (.long c1), .second, .unset] [])) _
    refine XS.iloadN X0.here hx rfl (hb hby d3_12) rfl ?_
    show Steps p.tables e below (s₁.setTop (mkF m 13 #[.val (.ref u0), .val (.int (1 : Int32)), .val (.long c1), .second, .unset] [(.int (1 : Int32))])) _
    refine XS.iconst X0.here hx rfl (hb hby d3_13) ?_
    show Steps p.tables e below (s₁.setTop (mkF m 14 #[.val (.ref u0), .val (.int (1 : Int32)), .val (.long c1), .second, .unset] [(.int (1 : Int32)), (.int (1 : Int32))])) _
    refine XS.isub X0.here hx rfl (hb hby d3_14) rfl ?_
    rw [show ((1 : Int32) - (1 : Int32)) = (0 : Int32) from by decide]
    show Steps p.tables e below (s₁.setTop (mkF m 15 #[.val (.ref u0), .val (.int (1 : Int32)), .val (.long c1), .second, .unset] [(.int (0 : Int32))])) _
    refine XS.istore X0.here hx rfl (hb hby d3_15) rfl (l' := #[.val (.ref u0), .val (.int (1 : Int32)), .val (.long c1), .second, .val (.int (0 : Int32))]) rfl ?_
    show Steps p.tables e below (s₁.setTop (mkF m 17 #[.val (.ref u0), .val (.int (1 : Int32)), .val (.long c1), .second, .val (.int (0 : Int32))] [])) _
    refine XS.iload X0.here hx rfl (hb hby d3_17) rfl ?_
    show Steps p.tables e below (s₁.setTop (mkF m 19 #[.val (.ref u0), .val (.int (1 : Int32)), .val (.long c1), .second, .val (.int (0 : Int32))] [(.int (0 : Int32))])) _
    refine XS.ifNo X0.here hx rfl (hb hby d3_19) rfl ((if0 _ _).trans (flt (by decide : ¬ ((0 : Int32) < (0 : Int32)))).1) ?_
    show Steps p.tables e below (s₁.setTop (mkF m 22 #[.val (.ref u0), .val (.int (1 : Int32)), .val (.long c1), .second, .val (.int (0 : Int32))] [])) _
    refine XS.aloadN X0.here hx rfl (hb hby d3_22) rfl rfl ?_
    show Steps p.tables e below (s₁.setTop (mkF m 23 #[.val (.ref u0), .val (.int (1 : Int32)), .val (.long c1), .second, .val (.int (0 : Int32))] [(.ref u0)])) _
    refine XS.iload X0.here hx rfl (hb hby d3_23) rfl ?_
    show Steps p.tables e below (s₁.setTop (mkF m 25 #[.val (.ref u0), .val (.int (1 : Int32)), .val (.long c1), .second, .val (.int (0 : Int32))] [(.int (0 : Int32)), (.ref u0)])) _
    refine X0.laload hx (j := (0 : Int32)) (v := (.long c0)) (by rw [e0]; exact Ar3.1) (State.isArrayOf_alike hZ.alike Ar3.2.1) Ar3.2.2 hin3 hat3 (g := (mkF m 25 #[.val (.ref u0), .val (.int (1 : Int32)), .val (.long c1), .second, .val (.int (0 : Int32))] [(.int (0 : Int32)), (.ref u0)])) rfl rfl (hb hby d3_25) _ ?_
    show Steps p.tables e below (s₁.setTop (mkF m 26 #[.val (.ref u0), .val (.int (1 : Int32)), .val (.long c1), .second, .val (.int (0 : Int32))] [(.long c0)])) _
    refine XS.lloadN X0.here hx rfl (hb hby d3_26) rfl ?_
    show Steps p.tables e below (s₁.setTop (mkF m 27 #[.val (.ref u0), .val (.int (1 : Int32)), .val (.long c1), .second, .val (.int (0 : Int32))] [(.long c1), (.long c0)])) _
    refine XS.lcmp X0.here hx rfl (hb hby d3_27) rfl ?_
    exact kt
  refine Done.of ?_ K4
  by_cases hc28_5 : c0 < c1
  · have K : ∀ target, Steps p.tables e below (s₁.setTop (mkF m 31 #[.val (.ref u0), .val (.int (1 : Int32)), .val (.long c1), .second, .val (.int (0 : Int32))] [])) target → Steps p.tables e below (s₁.setTop (mkF m 28 #[.val (.ref u0), .val (.int (1 : Int32)), .val (.long c1), .second, .val (.int (0 : Int32))] [(.int (lcmpW c0 c1))])) target := by
      intro target kt
      refine XS.ifNo X0.here hx rfl (hb hby d3_28) rfl ((if0 _ _).trans (tlt ((lw_lt c0 c1).mpr hc28_5)).2.1) ?_
      exact kt
    refine Done.of ?_ K
    obtain ⟨cl6, Ar6, qq6, S6, M6, H6, G6⟩ := id V0
    have hin6 : ¬ ((0 : Int32) < 0 ∨ cl6.slots.size ≤ ((0 : Int32)).toNatClampNeg) := inb_of S6 ⟨by decide, by decide⟩
    have hat6 : cl6.slots[((0 : Int32)).toNatClampNeg]? = some (.long c0) := H6 0 (by rw [S6]; decide)
    obtain ⟨cl7, Ar7, qq7, S7, M7, H7, G7⟩ := id V0
    have hin7 : ¬ ((1 : Int32) < 0 ∨ cl7.slots.size ≤ ((1 : Int32)).toNatClampNeg) := inb_of S7 ⟨by decide, by decide⟩
    obtain ⟨T8, h8, X8, e8, W8, st8⟩ := stJ X0 hx hZ e0 Ar7 (j := (1 : Int32)) hin7 (g := (mkF m 40 #[.val (.ref u0), .val (.int (1 : Int32)), .val (.long c1), .second, .val (.int (0 : Int32))] [(.long c0), (.int (1 : Int32)), (.ref u0)])) rfl rfl (hb hby d3_40)
    have V8 : Arv Z h8 u0 kA .long (2 : Int32) [(.long c0), (.long c0)] _ := Arv.set Ar7 qq7 S7 M7 H7 G7 rfl W8 1 rfl (Nat.le_of_ble_eq_true rfl)
    have N8 := Fr.snoc X8 N0 g0
    have Z8 : n0 ≤ h8.size := Nat.le_trans Z0 (Nat.le_of_eq W8.size.symm)
    have Kp8 := (Keep.refl h0 [u0]).wr W8 (Or.inl (List.mem_of_getElem? (i := 0) rfl))
    obtain ⟨cl9, Ar9, qq9, S9, M9, H9, G9⟩ := id V8
    have hin9 : ¬ ((0 : Int32) < 0 ∨ cl9.slots.size ≤ ((0 : Int32)).toNatClampNeg) := inb_of S9 ⟨by decide, by decide⟩
    obtain ⟨T10, h10, X10, e10, W10, st10⟩ := stJ X8 hx hZ e8 Ar9 (j := (0 : Int32)) hin9 (g := (mkF m 53 #[.val (.ref u0), .val (.int (1 : Int32)), .val (.long c1), .second, .val (.int (-1 : Int32))] [(.long c1), (.int (0 : Int32)), (.ref u0)])) rfl rfl (hb hby d3_53)
    have V10 : Arv Z h10 u0 kA .long (2 : Int32) [(.long c1), (.long c0)] _ := Arv.set Ar9 qq9 S9 M9 H9 G9 rfl W10 0 rfl (Nat.le_of_ble_eq_true rfl)
    have N10 := Fr.snoc X10 N8 g0
    have Z10 : n0 ≤ h10.size := Nat.le_trans Z8 (Nat.le_of_eq W10.size.symm)
    have Kp10 := Kp8.wr W10 (Or.inl (List.mem_of_getElem? (i := 0) rfl))
    obtain ⟨cl11, Ar11, qq11, S11, M11, H11, G11⟩ := id V10
    obtain ⟨fs, hr, hrun, hended, hW, hsame⟩ := X10.leave (v := none) (fun _ => rfl)
    refine ⟨_, _, ?_, hrun, hended, _, _, rfl, ?_, ⟨_, rfl⟩, hW, hsame.mono (by decide) (by decide)⟩
    · show Steps p.tables e below (s₁.setTop (mkF m 31 #[.val (.ref u0), .val (.int (1 : Int32)), .val (.long c1), .second, .val (.int (0 : Int32))] [])) _
      refine XS.aloadN X0.here hx rfl (hb hby d3_31) rfl rfl ?_
      show Steps p.tables e below (s₁.setTop (mkF m 32 #[.val (.ref u0), .val (.int (1 : Int32)), .val (.long c1), .second, .val (.int (0 : Int32))] [(.ref u0)])) _
      refine XS.iload X0.here hx rfl (hb hby d3_32) rfl ?_
      show Steps p.tables e below (s₁.setTop (mkF m 34 #[.val (.ref u0), .val (.int (1 : Int32)), .val (.long c1), .second, .val (.int (0 : Int32))] [(.int (0 : Int32)), (.ref u0)])) _
      refine XS.iconst X0.here hx rfl (hb hby d3_34) ?_
      show Steps p.tables e below (s₁.setTop (mkF m 35 #[.val (.ref u0), .val (.int (1 : Int32)), .val (.long c1), .second, .val (.int (0 : Int32))] [(.int (1 : Int32)), (.int (0 : Int32)), (.ref u0)])) _
      refine XS.iadd X0.here hx rfl (hb hby d3_35) rfl ?_
      rw [show ((0 : Int32) + (1 : Int32)) = (1 : Int32) from by decide]
      show Steps p.tables e below (s₁.setTop (mkF m 36 #[.val (.ref u0), .val (.int (1 : Int32)), .val (.long c1), .second, .val (.int (0 : Int32))] [(.int (1 : Int32)), (.ref u0)])) _
      refine XS.aloadN X0.here hx rfl (hb hby d3_36) rfl rfl ?_
      show Steps p.tables e below (s₁.setTop (mkF m 37 #[.val (.ref u0), .val (.int (1 : Int32)), .val (.long c1), .second, .val (.int (0 : Int32))] [(.ref u0), (.int (1 : Int32)), (.ref u0)])) _
      refine XS.iload X0.here hx rfl (hb hby d3_37) rfl ?_
      show Steps p.tables e below (s₁.setTop (mkF m 39 #[.val (.ref u0), .val (.int (1 : Int32)), .val (.long c1), .second, .val (.int (0 : Int32))] [(.int (0 : Int32)), (.ref u0), (.int (1 : Int32)), (.ref u0)])) _
      refine X0.laload hx (j := (0 : Int32)) (v := (.long c0)) (by rw [e0]; exact Ar6.1) (State.isArrayOf_alike hZ.alike Ar6.2.1) Ar6.2.2 hin6 hat6 (g := (mkF m 39 #[.val (.ref u0), .val (.int (1 : Int32)), .val (.long c1), .second, .val (.int (0 : Int32))] [(.int (0 : Int32)), (.ref u0), (.int (1 : Int32)), (.ref u0)])) rfl rfl (hb hby d3_39) _ ?_
      show Steps p.tables e below (s₁.setTop (mkF m 40 #[.val (.ref u0), .val (.int (1 : Int32)), .val (.long c1), .second, .val (.int (0 : Int32))] [(.long c0), (.int (1 : Int32)), (.ref u0)])) _
      refine st8 _ ?_
      show Steps p.tables e below (T8.setTop (mkF m 41 #[.val (.ref u0), .val (.int (1 : Int32)), .val (.long c1), .second, .val (.int (0 : Int32))] [])) _
      refine XS.iinc X8.here hx rfl (hb hby d3_41) rfl (l' := #[.val (.ref u0), .val (.int (1 : Int32)), .val (.long c1), .second, .val (.int ((0 : Int32) + (-1 : Int32)))]) rfl ?_
      rw [show ((0 : Int32) + (-1 : Int32)) = (-1 : Int32) from by decide]
      show Steps p.tables e below (T8.setTop (mkF m 44 #[.val (.ref u0), .val (.int (1 : Int32)), .val (.long c1), .second, .val (.int (-1 : Int32))] [])) _
      refine XS.goto X8.here hx rfl (pc0 := 44) (pc' := 17) rfl (hb hby d3_44) (by decide) (by decide) ?_
      show Steps p.tables e below (T8.setTop (mkF m 17 #[.val (.ref u0), .val (.int (1 : Int32)), .val (.long c1), .second, .val (.int (-1 : Int32))] [])) _
      refine XS.iload X8.here hx rfl (hb hby d3_17) rfl ?_
      show Steps p.tables e below (T8.setTop (mkF m 19 #[.val (.ref u0), .val (.int (1 : Int32)), .val (.long c1), .second, .val (.int (-1 : Int32))] [(.int (-1 : Int32))])) _
      refine XS.ifYes X8.here hx rfl (pc0 := 19) (pc' := 47) rfl (hb hby d3_19) rfl ((if0 _ _).trans (tlt (by decide : (-1 : Int32) < (0 : Int32))).1) (by decide) (by decide) ?_
      show Steps p.tables e below (T8.setTop (mkF m 47 #[.val (.ref u0), .val (.int (1 : Int32)), .val (.long c1), .second, .val (.int (-1 : Int32))] [])) _
      refine XS.aloadN X8.here hx rfl (hb hby d3_47) rfl rfl ?_
      show Steps p.tables e below (T8.setTop (mkF m 48 #[.val (.ref u0), .val (.int (1 : Int32)), .val (.long c1), .second, .val (.int (-1 : Int32))] [(.ref u0)])) _
      refine XS.iload X8.here hx rfl (hb hby d3_48) rfl ?_
      show Steps p.tables e below (T8.setTop (mkF m 50 #[.val (.ref u0), .val (.int (1 : Int32)), .val (.long c1), .second, .val (.int (-1 : Int32))] [(.int (-1 : Int32)), (.ref u0)])) _
      refine XS.iconst X8.here hx rfl (hb hby d3_50) ?_
      show Steps p.tables e below (T8.setTop (mkF m 51 #[.val (.ref u0), .val (.int (1 : Int32)), .val (.long c1), .second, .val (.int (-1 : Int32))] [(.int (1 : Int32)), (.int (-1 : Int32)), (.ref u0)])) _
      refine XS.iadd X8.here hx rfl (hb hby d3_51) rfl ?_
      rw [show ((-1 : Int32) + (1 : Int32)) = (0 : Int32) from by decide]
      show Steps p.tables e below (T8.setTop (mkF m 52 #[.val (.ref u0), .val (.int (1 : Int32)), .val (.long c1), .second, .val (.int (-1 : Int32))] [(.int (0 : Int32)), (.ref u0)])) _
      refine XS.lloadN X8.here hx rfl (hb hby d3_52) rfl ?_
      show Steps p.tables e below (T8.setTop (mkF m 53 #[.val (.ref u0), .val (.int (1 : Int32)), .val (.long c1), .second, .val (.int (-1 : Int32))] [(.long c1), (.int (0 : Int32)), (.ref u0)])) _
      refine st10 _ ?_
      show Steps p.tables e below (T10.setTop (mkF m 54 #[.val (.ref u0), .val (.int (1 : Int32)), .val (.long c1), .second, .val (.int (-1 : Int32))] [])) _
      refine XS.iinc X10.here hx rfl (hb hby d3_54) rfl (l' := #[.val (.ref u0), .val (.int ((1 : Int32) + (1 : Int32))), .val (.long c1), .second, .val (.int (-1 : Int32))]) rfl ?_
      rw [show ((1 : Int32) + (1 : Int32)) = (2 : Int32) from by decide]
      show Steps p.tables e below (T10.setTop (mkF m 57 #[.val (.ref u0), .val (.int (2 : Int32)), .val (.long c1), .second, .val (.int (-1 : Int32))] [])) _
      refine XS.goto X10.here hx rfl (pc0 := 57) (pc' := 2) rfl (hb hby d3_57) (by decide) (by decide) ?_
      show Steps p.tables e below (T10.setTop (mkF m 2 #[.val (.ref u0), .val (.int (2 : Int32)), .val (.long c1), .second, .val (.int (-1 : Int32))] [])) _
      refine XS.iloadN X10.here hx rfl (hb hby d3_2) rfl ?_
      show Steps p.tables e below (T10.setTop (mkF m 3 #[.val (.ref u0), .val (.int (2 : Int32)), .val (.long c1), .second, .val (.int (-1 : Int32))] [(.int (2 : Int32))])) _
      refine XS.aloadN X10.here hx rfl (hb hby d3_3) rfl rfl ?_
      show Steps p.tables e below (T10.setTop (mkF m 4 #[.val (.ref u0), .val (.int (2 : Int32)), .val (.long c1), .second, .val (.int (-1 : Int32))] [(.ref u0), (.int (2 : Int32))])) _
      refine X10.arraylength hx (by rw [e10]; exact Ar11.1) (State.isArrayOf_alike hZ.alike Ar11.2.1) (g := (mkF m 4 #[.val (.ref u0), .val (.int (2 : Int32)), .val (.long c1), .second, .val (.int (-1 : Int32))] [(.ref u0), (.int (2 : Int32))])) rfl rfl (hb hby d3_4) _ ?_
      rw [len_of S11 M11]
      show Steps p.tables e below (T10.setTop (mkF m 5 #[.val (.ref u0), .val (.int (2 : Int32)), .val (.long c1), .second, .val (.int (-1 : Int32))] [(.int (2 : Int32)), (.int (2 : Int32))])) _
      refine XS.icmpYes X10.here hx rfl (pc0 := 5) (pc' := 60) rfl (hb hby d3_5) rfl (flt (by decide : ¬ ((2 : Int32) < (2 : Int32)))).2.1 (by decide) (by decide) ?_
      show Steps p.tables e below (T10.setTop (mkF m 60 #[.val (.ref u0), .val (.int (2 : Int32)), .val (.long c1), .second, .val (.int (-1 : Int32))] [])) _
      exact X10.returnOut hx Bd.returns (hb hby d3_60) hr
    · show Q3n2 Z u0 kA dv c0 c1 h0 n0 _ T10.heap _
      rw [e10]
      have k0 := Int64.lt_iff_toInt_lt.mp hc28_5
      have r0 : (own_X c0 c1) = c1 := by
        apply Int64.toInt_inj.mp
        simp only [own_xi, own_ni]
        omega
      have r1 : (own_N c0 c1) = c0 := by
        apply Int64.toInt_inj.mp
        simp only [own_xi, own_ni]
        omega
      refine ⟨rfl, N10, Kp10, ?_⟩
      rw [r0, r1]
      exact V10
  · have K : ∀ target, Steps p.tables e below (s₁.setTop (mkF m 47 #[.val (.ref u0), .val (.int (1 : Int32)), .val (.long c1), .second, .val (.int (0 : Int32))] [])) target → Steps p.tables e below (s₁.setTop (mkF m 28 #[.val (.ref u0), .val (.int (1 : Int32)), .val (.long c1), .second, .val (.int (0 : Int32))] [(.int (lcmpW c0 c1))])) target := by
      intro target kt
      refine XS.ifYes X0.here hx rfl (pc0 := 28) (pc' := 47) rfl (hb hby d3_28) rfl ((if0 _ _).trans (flt (fun q => hc28_5 ((lw_lt c0 c1).mp q))).2.1) (by decide) (by decide) ?_
      exact kt
    refine Done.of ?_ K
    obtain ⟨cl12, Ar12, qq12, S12, M12, H12, G12⟩ := id V0
    have hin12 : ¬ ((1 : Int32) < 0 ∨ cl12.slots.size ≤ ((1 : Int32)).toNatClampNeg) := inb_of S12 ⟨by decide, by decide⟩
    obtain ⟨T13, h13, X13, e13, W13, st13⟩ := stJ X0 hx hZ e0 Ar12 (j := (1 : Int32)) hin12 (g := (mkF m 53 #[.val (.ref u0), .val (.int (1 : Int32)), .val (.long c1), .second, .val (.int (0 : Int32))] [(.long c1), (.int (1 : Int32)), (.ref u0)])) rfl rfl (hb hby d3_53)
    have V13 : Arv Z h13 u0 kA .long (2 : Int32) [(.long c0), (.long c1)] _ := Arv.set Ar12 qq12 S12 M12 H12 G12 rfl W13 1 rfl (Nat.le_of_ble_eq_true rfl)
    have N13 := Fr.snoc X13 N0 g0
    have Z13 : n0 ≤ h13.size := Nat.le_trans Z0 (Nat.le_of_eq W13.size.symm)
    have Kp13 := (Keep.refl h0 [u0]).wr W13 (Or.inl (List.mem_of_getElem? (i := 0) rfl))
    obtain ⟨cl14, Ar14, qq14, S14, M14, H14, G14⟩ := id V13
    obtain ⟨fs, hr, hrun, hended, hW, hsame⟩ := X13.leave (v := none) (fun _ => rfl)
    refine ⟨_, _, ?_, hrun, hended, _, _, rfl, ?_, ⟨_, rfl⟩, hW, hsame.mono (by decide) (by decide)⟩
    · show Steps p.tables e below (s₁.setTop (mkF m 47 #[.val (.ref u0), .val (.int (1 : Int32)), .val (.long c1), .second, .val (.int (0 : Int32))] [])) _
      refine XS.aloadN X0.here hx rfl (hb hby d3_47) rfl rfl ?_
      show Steps p.tables e below (s₁.setTop (mkF m 48 #[.val (.ref u0), .val (.int (1 : Int32)), .val (.long c1), .second, .val (.int (0 : Int32))] [(.ref u0)])) _
      refine XS.iload X0.here hx rfl (hb hby d3_48) rfl ?_
      show Steps p.tables e below (s₁.setTop (mkF m 50 #[.val (.ref u0), .val (.int (1 : Int32)), .val (.long c1), .second, .val (.int (0 : Int32))] [(.int (0 : Int32)), (.ref u0)])) _
      refine XS.iconst X0.here hx rfl (hb hby d3_50) ?_
      show Steps p.tables e below (s₁.setTop (mkF m 51 #[.val (.ref u0), .val (.int (1 : Int32)), .val (.long c1), .second, .val (.int (0 : Int32))] [(.int (1 : Int32)), (.int (0 : Int32)), (.ref u0)])) _
      refine XS.iadd X0.here hx rfl (hb hby d3_51) rfl ?_
      rw [show ((0 : Int32) + (1 : Int32)) = (1 : Int32) from by decide]
      show Steps p.tables e below (s₁.setTop (mkF m 52 #[.val (.ref u0), .val (.int (1 : Int32)), .val (.long c1), .second, .val (.int (0 : Int32))] [(.int (1 : Int32)), (.ref u0)])) _
      refine XS.lloadN X0.here hx rfl (hb hby d3_52) rfl ?_
      show Steps p.tables e below (s₁.setTop (mkF m 53 #[.val (.ref u0), .val (.int (1 : Int32)), .val (.long c1), .second, .val (.int (0 : Int32))] [(.long c1), (.int (1 : Int32)), (.ref u0)])) _
      refine st13 _ ?_
      show Steps p.tables e below (T13.setTop (mkF m 54 #[.val (.ref u0), .val (.int (1 : Int32)), .val (.long c1), .second, .val (.int (0 : Int32))] [])) _
      refine XS.iinc X13.here hx rfl (hb hby d3_54) rfl (l' := #[.val (.ref u0), .val (.int ((1 : Int32) + (1 : Int32))), .val (.long c1), .second, .val (.int (0 : Int32))]) rfl ?_
      rw [show ((1 : Int32) + (1 : Int32)) = (2 : Int32) from by decide]
      show Steps p.tables e below (T13.setTop (mkF m 57 #[.val (.ref u0), .val (.int (2 : Int32)), .val (.long c1), .second, .val (.int (0 : Int32))] [])) _
      refine XS.goto X13.here hx rfl (pc0 := 57) (pc' := 2) rfl (hb hby d3_57) (by decide) (by decide) ?_
      show Steps p.tables e below (T13.setTop (mkF m 2 #[.val (.ref u0), .val (.int (2 : Int32)), .val (.long c1), .second, .val (.int (0 : Int32))] [])) _
      refine XS.iloadN X13.here hx rfl (hb hby d3_2) rfl ?_
      show Steps p.tables e below (T13.setTop (mkF m 3 #[.val (.ref u0), .val (.int (2 : Int32)), .val (.long c1), .second, .val (.int (0 : Int32))] [(.int (2 : Int32))])) _
      refine XS.aloadN X13.here hx rfl (hb hby d3_3) rfl rfl ?_
      show Steps p.tables e below (T13.setTop (mkF m 4 #[.val (.ref u0), .val (.int (2 : Int32)), .val (.long c1), .second, .val (.int (0 : Int32))] [(.ref u0), (.int (2 : Int32))])) _
      refine X13.arraylength hx (by rw [e13]; exact Ar14.1) (State.isArrayOf_alike hZ.alike Ar14.2.1) (g := (mkF m 4 #[.val (.ref u0), .val (.int (2 : Int32)), .val (.long c1), .second, .val (.int (0 : Int32))] [(.ref u0), (.int (2 : Int32))])) rfl rfl (hb hby d3_4) _ ?_
      rw [len_of S14 M14]
      show Steps p.tables e below (T13.setTop (mkF m 5 #[.val (.ref u0), .val (.int (2 : Int32)), .val (.long c1), .second, .val (.int (0 : Int32))] [(.int (2 : Int32)), (.int (2 : Int32))])) _
      refine XS.icmpYes X13.here hx rfl (pc0 := 5) (pc' := 60) rfl (hb hby d3_5) rfl (flt (by decide : ¬ ((2 : Int32) < (2 : Int32)))).2.1 (by decide) (by decide) ?_
      show Steps p.tables e below (T13.setTop (mkF m 60 #[.val (.ref u0), .val (.int (2 : Int32)), .val (.long c1), .second, .val (.int (0 : Int32))] [])) _
      exact X13.returnOut hx Bd.returns (hb hby d3_60) hr
    · show Q3n2 Z u0 kA dv c0 c1 h0 n0 _ T13.heap _
      rw [e13]
      have k0 := mt Int64.lt_iff_toInt_lt.mpr hc28_5
      have r0 : (own_X c0 c1) = c0 := by
        apply Int64.toInt_inj.mp
        simp only [own_xi, own_ni]
        omega
      have r1 : (own_N c0 c1) = c1 := by
        apply Int64.toInt_inj.mp
        simp only [own_xi, own_ni]
        omega
      refine ⟨rfl, N13, Kp13, ?_⟩
      rw [r0, r1]
      exact V13
theorem ef_3n3 (m : MethodId) (u0 : Addr)  : entryFrame m #[(.ref u0)] 5 = mkF m 0 #[.val (.ref u0), .unset, .unset, .unset, .unset] [] := by first | (simp [entryFrame, mkF, argsToLocals, Value.category]; done) | rfl
def Q3n3 (Z : State) (u0 : Addr) (kA : ClassId) (dv : Value) (c0 : Int64) (c1 : Int64) (c2 : Int64) (h0 : Heap) (n0 : Nat) (v : Option Value) (h : Heap) (L : List Loc) : Prop := v = none ∧ Fr n0 L ∧ Keep h0 h [u0] ∧ Arv Z h u0 kA .long (3 : Int32) [(.long (own_X (own_X c0 c1) c2)), (.long (own_X (own_N c0 c1) (own_N (own_X c0 c1) c2))), (.long (own_N (own_N c0 c1) (own_N (own_X c0 c1) c2)))] dv
set_option maxRecDepth 65536 in
set_option maxHeartbeats 40000000 in
theorem rm3n3 (l : Launch) (Z : State) (a0 : Array Value) (hw : ∀ d ∈ tables_1, d.before a0 Z = true) (ws : List Jvm.Cond) (u0 : Addr) (kA : ClassId) (dv : Value) (c0 : Int64) (c1 : Int64) (c2 : Int64) (h0 : Heap) (n0 : Nat) (Z0 : n0 ≤ h0.size) (V0 : Arv Z h0 u0 kA .long (3 : Int32) [(.long c0), (.long c1), (.long c2)] dv) (g0 : n0 ≤ u0) :
    MetFree l (⟨"com/example/firepick/firepick/TimeTags", "rank", "([J)V"⟩ : MethodName) (head1 (Jvm.Cond.code (⟨"com/example/firepick/firepick/TimeTags", "rank", "([J)V"⟩ : MethodName) prog_84_method_3_code 5 none :: ws) ({ frames := 0, cells := 0, slots := 0, locals := 0 } : Room)) (fun a U => a = #[(.ref u0)] ∧ Z.Warmed39 U.vm ∧ U.heap = h0) (fun _ _ _ _ _ => True) (fun _ U o U' => ∃ v L, o = .returned v ∧ Q3n3 Z u0 kA dv c0 c1 c2 h0 n0 v U'.heap L ∧ FrameEnd U o U' L ({ frames := 0, cells := 0, slots := 0, locals := 0 } : Room).cells ({ frames := 0, cells := 0, slots := 0, locals := 0 } : Room).slots) := by
  refine MetFree.of_bodySF (plainFor_of_name pn_3) hisR ?_
  intro p e s m args below meth c s₁ Bd hml0 hP hK
  obtain ⟨rfl, hZ, hh⟩ := hP
  have hx := Bd.exec
  have hby := Bd.bytes
  have hml : c.maxLocals = 5 := hml0
  have hown : s.vm.findClass "com/example/firepick/firepick/TimeTags" = some m.cls := findClass_of_methodNamed Bd.named
  have hnm := (name_of_methodNamed Bd.named Bd.method).1
  have X0 : Stand p l e ({ frames := 0, cells := 0, slots := 0, locals := 0 } : Room) s m #[(.ref u0)] below meth c s₁ [] 0 0 := Stand.of_body Bd
  have e0 : s₁.heap = h0 := by rw [← hh, Bd.state]; rfl
  have N0 := Fr.nil n0
  have pre0 : ∀ t, Steps p.tables e below (s₁.setTop (mkF m 0 #[.val (.ref u0), .unset, .unset, .unset, .unset] [])) t → Steps p.tables e below (s₁.setTop (entryFrame m #[(.ref u0)] 5)) t := fun t k => castTop (ef_3n3 m u0) k
  show Done p e below _ _
  refine Done.of ?_ pre0
  obtain ⟨cl1, Ar1, qq1, S1, M1, H1, G1⟩ := id V0
  obtain ⟨cl2, Ar2, qq2, S2, M2, H2, G2⟩ := id V0
  have hin2 : ¬ ((1 : Int32) < 0 ∨ cl2.slots.size ≤ ((1 : Int32)).toNatClampNeg) := inb_of S2 ⟨by decide, by decide⟩
  have hat2 : cl2.slots[((1 : Int32)).toNatClampNeg]? = some (.long c1) := H2 1 (by rw [S2]; decide)
  obtain ⟨cl3, Ar3, qq3, S3, M3, H3, G3⟩ := id V0
  have hin3 : ¬ ((0 : Int32) < 0 ∨ cl3.slots.size ≤ ((0 : Int32)).toNatClampNeg) := inb_of S3 ⟨by decide, by decide⟩
  have hat3 : cl3.slots[((0 : Int32)).toNatClampNeg]? = some (.long c0) := H3 0 (by rw [S3]; decide)
  have K4 : ∀ target, Steps p.tables e below (s₁.setTop (mkF m 28 #[.val (.ref u0), .val (.int (1 : Int32)), .val (.long c1), .second, .val (.int (0 : Int32))] [(.int (lcmpW c0 c1))])) target → Steps p.tables e below (s₁.setTop (mkF m 0 #[.val (.ref u0), .unset, .unset, .unset, .unset] [])) target := by
    intro target kt
    show Steps p.tables e below (s₁.setTop (mkF m 0 #[.val (.ref u0), .unset, .unset, .unset, .unset] [])) _
    refine XS.iconst X0.here hx rfl (hb hby d3_0) ?_
    show Steps p.tables e below (s₁.setTop (mkF m 1 #[.val (.ref u0), .unset, .unset, .unset, .unset] [(.int (1 : Int32))])) _
    refine XS.istoreN X0.here hx rfl (hb hby d3_1) rfl (l' := #[.val (.ref u0), .val (.int (1 : Int32)), .unset, .unset, .unset]) rfl ?_
    show Steps p.tables e below (s₁.setTop (mkF m 2 #[.val (.ref u0), .val (.int (1 : Int32)), .unset, .unset, .unset] [])) _
    refine XS.iloadN X0.here hx rfl (hb hby d3_2) rfl ?_
    show Steps p.tables e below (s₁.setTop (mkF m 3 #[.val (.ref u0), .val (.int (1 : Int32)), .unset, .unset, .unset] [(.int (1 : Int32))])) _
    refine XS.aloadN X0.here hx rfl (hb hby d3_3) rfl rfl ?_
    show Steps p.tables e below (s₁.setTop (mkF m 4 #[.val (.ref u0), .val (.int (1 : Int32)), .unset, .unset, .unset] [(.ref u0), (.int (1 : Int32))])) _
    refine X0.arraylength hx (by rw [e0]; exact Ar1.1) (State.isArrayOf_alike hZ.alike Ar1.2.1) (g := (mkF m 4 #[.val (.ref u0), .val (.int (1 : Int32)), .unset, .unset, .unset] [(.ref u0), (.int (1 : Int32))])) rfl rfl (hb hby d3_4) _ ?_
    rw [len_of S1 M1]
    show Steps p.tables e below (s₁.setTop (mkF m 5 #[.val (.ref u0), .val (.int (1 : Int32)), .unset, .unset, .unset] [(.int (3 : Int32)), (.int (1 : Int32))])) _
    refine XS.icmpNo X0.here hx rfl (hb hby d3_5) rfl (tlt (by decide : (1 : Int32) < (3 : Int32))).2.1 ?_
    show Steps p.tables e below (s₁.setTop (mkF m 8 #[.val (.ref u0), .val (.int (1 : Int32)), .unset, .unset, .unset] [])) _
    refine XS.aloadN X0.here hx rfl (hb hby d3_8) rfl rfl ?_
    show Steps p.tables e below (s₁.setTop (mkF m 9 #[.val (.ref u0), .val (.int (1 : Int32)), .unset, .unset, .unset] [(.ref u0)])) _
    refine XS.iloadN X0.here hx rfl (hb hby d3_9) rfl ?_
    show Steps p.tables e below (s₁.setTop (mkF m 10 #[.val (.ref u0), .val (.int (1 : Int32)), .unset, .unset, .unset] [(.int (1 : Int32)), (.ref u0)])) _
    refine X0.laload hx (j := (1 : Int32)) (v := (.long c1)) (by rw [e0]; exact Ar2.1) (State.isArrayOf_alike hZ.alike Ar2.2.1) Ar2.2.2 hin2 hat2 (g := (mkF m 10 #[.val (.ref u0), .val (.int (1 : Int32)), .unset, .unset, .unset] [(.int (1 : Int32)), (.ref u0)])) rfl rfl (hb hby d3_10) _ ?_
    show Steps p.tables e below (s₁.setTop (mkF m 11 #[.val (.ref u0), .val (.int (1 : Int32)), .unset, .unset, .unset] [(.long c1)])) _
    refine XS.lstoreN X0.here hx rfl (hb hby d3_11) rfl (l' := #[.val (.ref u0), .val (.int (1 : Int32)), .val (.long c1), .second, .unset]) rfl ?_
    show Steps p.tables e below (s₁.setTop (mkF m 12 #[.val (.ref u0), .val (.int (1 : Int32)), .val (.long c1), .second, .unset] [])) _
    refine XS.iloadN X0.here hx rfl (hb hby d3_12) rfl ?_
    show Steps p.tables e below (s₁.setTop (mkF m 13 #[.val (.ref u0), .val (.int (1 : Int32)), .val (.long c1), .second, .unset] [(.int (1 : Int32))])) _
    refine XS.iconst X0.here hx rfl (hb hby d3_13) ?_
    show Steps p.tables e below (s₁.setTop (mkF m 14 #[.val (.ref u0), .val (.int (1 : Int32)), .val (.long c1), .second, .unset] [(.int (1 : Int32)), (.int (1 : Int32))])) _
    refine XS.isub X0.here hx rfl (hb hby d3_14) rfl ?_
    rw [show ((1 : Int32) - (1 : Int32)) = (0 : Int32) from by decide]
    show Steps p.tables e below (s₁.setTop (mkF m 15 #[.val (.ref u0), .val (.int (1 : Int32)), .val (.long c1), .second, .unset] [(.int (0 : Int32))])) _
    refine XS.istore X0.here hx rfl (hb hby d3_15) rfl (l' := #[.val (.ref u0), .val (.int (1 : Int32)), .val (.long c1), .second, .val (.int (0 : Int32))]) rfl ?_
    show Steps p.tables e below (s₁.setTop (mkF m 17 #[.val (.ref u0), .val (.int (1 : Int32)), .val (.long c1), .second, .val (.int (0 : Int32))] [])) _
    refine XS.iload X0.here hx rfl (hb hby d3_17) rfl ?_
    show Steps p.tables e below (s₁.setTop (mkF m 19 #[.val (.ref u0), .val (.int (1 : Int32)), .val (.long c1), .second, .val (.int (0 : Int32))] [(.int (0 : Int32))])) _
    refine XS.ifNo X0.here hx rfl (hb hby d3_19) rfl ((if0 _ _).trans (flt (by decide : ¬ ((0 : Int32) < (0 : Int32)))).1) ?_
    show Steps p.tables e below (s₁.setTop (mkF m 22 #[.val (.ref u0), .val (.int (1 : Int32)), .val (.long c1), .second, .val (.int (0 : Int32))] [])) _
    refine XS.aloadN X0.here hx rfl (hb hby d3_22) rfl rfl ?_
    show Steps p.tables e below (s₁.setTop (mkF m 23 #[.val (.ref u0), .val (.int (1 : Int32)), .val (.long c1), .second, .val (.int (0 : Int32))] [(.ref u0)])) _
    refine XS.iload X0.here hx rfl (hb hby d3_23) rfl ?_
    show Steps p.tables e below (s₁.setTop (mkF m 25 #[.val (.ref u0), .val (.int (1 : Int32)), .val (.long c1), .second, .val (.int (0 : Int32))] [(.int (0 : Int32)), (.ref u0)])) _
    refine X0.laload hx (j := (0 : Int32)) (v := (.long c0)) (by rw [e0]; exact Ar3.1) (State.isArrayOf_alike hZ.alike Ar3.2.1) Ar3.2.2 hin3 hat3 (g := (mkF m 25 #[.val (.ref u0), .val (.int (1 : Int32)), .val (.long c1), .second, .val (.int (0 : Int32))] [(.int (0 : Int32)), (.ref u0)])) rfl rfl (hb hby d3_25) _ ?_
    show Steps p.tables e below (s₁.setTop (mkF m 26 #[.val (.ref u0), .val (.int (1 : Int32)), .val (.long c1), .second, .val (.int (0 : Int32))] [(.long c0)])) _
    refine XS.lloadN X0.here hx rfl (hb hby d3_26) rfl ?_
    show Steps p.tables e below (s₁.setTop (mkF m 27 #[.val (.ref u0), .val (.int (1 : Int32)), .val (.long c1), .second, .val (.int (0 : Int32))] [(.long c1), (.long c0)])) _
    refine XS.lcmp X0.here hx rfl (hb hby d3_27) rfl ?_
    exact kt
  refine Done.of ?_ K4
  by_cases hc28_5 : c0 < c1
  · have K : ∀ target, Steps p.tables e below (s₁.setTop (mkF m 31 #[.val (.ref u0), .val (.int (1 : Int32)), .val (.long c1), .second, .val (.int (0 : Int32))] [])) target → Steps p.tables e below (s₁.setTop (mkF m 28 #[.val (.ref u0), .val (.int (1 : Int32)), .val (.long c1), .second, .val (.int (0 : Int32))] [(.int (lcmpW c0 c1))])) target := by
      intro target kt
      refine XS.ifNo X0.here hx rfl (hb hby d3_28) rfl ((if0 _ _).trans (tlt ((lw_lt c0 c1).mpr hc28_5)).2.1) ?_
      exact kt
    refine Done.of ?_ K
    obtain ⟨cl6, Ar6, qq6, S6, M6, H6, G6⟩ := id V0
    have hin6 : ¬ ((0 : Int32) < 0 ∨ cl6.slots.size ≤ ((0 : Int32)).toNatClampNeg) := inb_of S6 ⟨by decide, by decide⟩
    have hat6 : cl6.slots[((0 : Int32)).toNatClampNeg]? = some (.long c0) := H6 0 (by rw [S6]; decide)
    obtain ⟨cl7, Ar7, qq7, S7, M7, H7, G7⟩ := id V0
    have hin7 : ¬ ((1 : Int32) < 0 ∨ cl7.slots.size ≤ ((1 : Int32)).toNatClampNeg) := inb_of S7 ⟨by decide, by decide⟩
    obtain ⟨T8, h8, X8, e8, W8, st8⟩ := stJ X0 hx hZ e0 Ar7 (j := (1 : Int32)) hin7 (g := (mkF m 40 #[.val (.ref u0), .val (.int (1 : Int32)), .val (.long c1), .second, .val (.int (0 : Int32))] [(.long c0), (.int (1 : Int32)), (.ref u0)])) rfl rfl (hb hby d3_40)
    have V8 : Arv Z h8 u0 kA .long (3 : Int32) [(.long c0), (.long c0), (.long c2)] _ := Arv.set Ar7 qq7 S7 M7 H7 G7 rfl W8 1 rfl (Nat.le_of_ble_eq_true rfl)
    have N8 := Fr.snoc X8 N0 g0
    have Z8 : n0 ≤ h8.size := Nat.le_trans Z0 (Nat.le_of_eq W8.size.symm)
    have Kp8 := (Keep.refl h0 [u0]).wr W8 (Or.inl (List.mem_of_getElem? (i := 0) rfl))
    obtain ⟨cl9, Ar9, qq9, S9, M9, H9, G9⟩ := id V8
    have hin9 : ¬ ((0 : Int32) < 0 ∨ cl9.slots.size ≤ ((0 : Int32)).toNatClampNeg) := inb_of S9 ⟨by decide, by decide⟩
    obtain ⟨T10, h10, X10, e10, W10, st10⟩ := stJ X8 hx hZ e8 Ar9 (j := (0 : Int32)) hin9 (g := (mkF m 53 #[.val (.ref u0), .val (.int (1 : Int32)), .val (.long c1), .second, .val (.int (-1 : Int32))] [(.long c1), (.int (0 : Int32)), (.ref u0)])) rfl rfl (hb hby d3_53)
    have V10 : Arv Z h10 u0 kA .long (3 : Int32) [(.long c1), (.long c0), (.long c2)] _ := Arv.set Ar9 qq9 S9 M9 H9 G9 rfl W10 0 rfl (Nat.le_of_ble_eq_true rfl)
    have N10 := Fr.snoc X10 N8 g0
    have Z10 : n0 ≤ h10.size := Nat.le_trans Z8 (Nat.le_of_eq W10.size.symm)
    have Kp10 := Kp8.wr W10 (Or.inl (List.mem_of_getElem? (i := 0) rfl))
    obtain ⟨cl11, Ar11, qq11, S11, M11, H11, G11⟩ := id V10
    obtain ⟨cl12, Ar12, qq12, S12, M12, H12, G12⟩ := id V10
    have hin12 : ¬ ((2 : Int32) < 0 ∨ cl12.slots.size ≤ ((2 : Int32)).toNatClampNeg) := inb_of S12 ⟨by decide, by decide⟩
    have hat12 : cl12.slots[((2 : Int32)).toNatClampNeg]? = some (.long c2) := H12 2 (by rw [S12]; decide)
    obtain ⟨cl13, Ar13, qq13, S13, M13, H13, G13⟩ := id V10
    have hin13 : ¬ ((1 : Int32) < 0 ∨ cl13.slots.size ≤ ((1 : Int32)).toNatClampNeg) := inb_of S13 ⟨by decide, by decide⟩
    have hat13 : cl13.slots[((1 : Int32)).toNatClampNeg]? = some (.long c0) := H13 1 (by rw [S13]; decide)
    have K14 : ∀ target, Steps p.tables e below (T10.setTop (mkF m 28 #[.val (.ref u0), .val (.int (2 : Int32)), .val (.long c2), .second, .val (.int (1 : Int32))] [(.int (lcmpW c0 c2))])) target → Steps p.tables e below (s₁.setTop (mkF m 31 #[.val (.ref u0), .val (.int (1 : Int32)), .val (.long c1), .second, .val (.int (0 : Int32))] [])) target := by
      intro target kt
      show Steps p.tables e below (s₁.setTop (mkF m 31 #[.val (.ref u0), .val (.int (1 : Int32)), .val (.long c1), .second, .val (.int (0 : Int32))] [])) _
      refine XS.aloadN X0.here hx rfl (hb hby d3_31) rfl rfl ?_
      show Steps p.tables e below (s₁.setTop (mkF m 32 #[.val (.ref u0), .val (.int (1 : Int32)), .val (.long c1), .second, .val (.int (0 : Int32))] [(.ref u0)])) _
      refine XS.iload X0.here hx rfl (hb hby d3_32) rfl ?_
      show Steps p.tables e below (s₁.setTop (mkF m 34 #[.val (.ref u0), .val (.int (1 : Int32)), .val (.long c1), .second, .val (.int (0 : Int32))] [(.int (0 : Int32)), (.ref u0)])) _
      refine XS.iconst X0.here hx rfl (hb hby d3_34) ?_
      show Steps p.tables e below (s₁.setTop (mkF m 35 #[.val (.ref u0), .val (.int (1 : Int32)), .val (.long c1), .second, .val (.int (0 : Int32))] [(.int (1 : Int32)), (.int (0 : Int32)), (.ref u0)])) _
      refine XS.iadd X0.here hx rfl (hb hby d3_35) rfl ?_
      rw [show ((0 : Int32) + (1 : Int32)) = (1 : Int32) from by decide]
      show Steps p.tables e below (s₁.setTop (mkF m 36 #[.val (.ref u0), .val (.int (1 : Int32)), .val (.long c1), .second, .val (.int (0 : Int32))] [(.int (1 : Int32)), (.ref u0)])) _
      refine XS.aloadN X0.here hx rfl (hb hby d3_36) rfl rfl ?_
      show Steps p.tables e below (s₁.setTop (mkF m 37 #[.val (.ref u0), .val (.int (1 : Int32)), .val (.long c1), .second, .val (.int (0 : Int32))] [(.ref u0), (.int (1 : Int32)), (.ref u0)])) _
      refine XS.iload X0.here hx rfl (hb hby d3_37) rfl ?_
      show Steps p.tables e below (s₁.setTop (mkF m 39 #[.val (.ref u0), .val (.int (1 : Int32)), .val (.long c1), .second, .val (.int (0 : Int32))] [(.int (0 : Int32)), (.ref u0), (.int (1 : Int32)), (.ref u0)])) _
      refine X0.laload hx (j := (0 : Int32)) (v := (.long c0)) (by rw [e0]; exact Ar6.1) (State.isArrayOf_alike hZ.alike Ar6.2.1) Ar6.2.2 hin6 hat6 (g := (mkF m 39 #[.val (.ref u0), .val (.int (1 : Int32)), .val (.long c1), .second, .val (.int (0 : Int32))] [(.int (0 : Int32)), (.ref u0), (.int (1 : Int32)), (.ref u0)])) rfl rfl (hb hby d3_39) _ ?_
      show Steps p.tables e below (s₁.setTop (mkF m 40 #[.val (.ref u0), .val (.int (1 : Int32)), .val (.long c1), .second, .val (.int (0 : Int32))] [(.long c0), (.int (1 : Int32)), (.ref u0)])) _
      refine st8 _ ?_
      show Steps p.tables e below (T8.setTop (mkF m 41 #[.val (.ref u0), .val (.int (1 : Int32)), .val (.long c1), .second, .val (.int (0 : Int32))] [])) _
      refine XS.iinc X8.here hx rfl (hb hby d3_41) rfl (l' := #[.val (.ref u0), .val (.int (1 : Int32)), .val (.long c1), .second, .val (.int ((0 : Int32) + (-1 : Int32)))]) rfl ?_
      rw [show ((0 : Int32) + (-1 : Int32)) = (-1 : Int32) from by decide]
      show Steps p.tables e below (T8.setTop (mkF m 44 #[.val (.ref u0), .val (.int (1 : Int32)), .val (.long c1), .second, .val (.int (-1 : Int32))] [])) _
      refine XS.goto X8.here hx rfl (pc0 := 44) (pc' := 17) rfl (hb hby d3_44) (by decide) (by decide) ?_
      show Steps p.tables e below (T8.setTop (mkF m 17 #[.val (.ref u0), .val (.int (1 : Int32)), .val (.long c1), .second, .val (.int (-1 : Int32))] [])) _
      refine XS.iload X8.here hx rfl (hb hby d3_17) rfl ?_
      show Steps p.tables e below (T8.setTop (mkF m 19 #[.val (.ref u0), .val (.int (1 : Int32)), .val (.long c1), .second, .val (.int (-1 : Int32))] [(.int (-1 : Int32))])) _
      refine XS.ifYes X8.here hx rfl (pc0 := 19) (pc' := 47) rfl (hb hby d3_19) rfl ((if0 _ _).trans (tlt (by decide : (-1 : Int32) < (0 : Int32))).1) (by decide) (by decide) ?_
      show Steps p.tables e below (T8.setTop (mkF m 47 #[.val (.ref u0), .val (.int (1 : Int32)), .val (.long c1), .second, .val (.int (-1 : Int32))] [])) _
      refine XS.aloadN X8.here hx rfl (hb hby d3_47) rfl rfl ?_
      show Steps p.tables e below (T8.setTop (mkF m 48 #[.val (.ref u0), .val (.int (1 : Int32)), .val (.long c1), .second, .val (.int (-1 : Int32))] [(.ref u0)])) _
      refine XS.iload X8.here hx rfl (hb hby d3_48) rfl ?_
      show Steps p.tables e below (T8.setTop (mkF m 50 #[.val (.ref u0), .val (.int (1 : Int32)), .val (.long c1), .second, .val (.int (-1 : Int32))] [(.int (-1 : Int32)), (.ref u0)])) _
      refine XS.iconst X8.here hx rfl (hb hby d3_50) ?_
      show Steps p.tables e below (T8.setTop (mkF m 51 #[.val (.ref u0), .val (.int (1 : Int32)), .val (.long c1), .second, .val (.int (-1 : Int32))] [(.int (1 : Int32)), (.int (-1 : Int32)), (.ref u0)])) _
      refine XS.iadd X8.here hx rfl (hb hby d3_51) rfl ?_
      rw [show ((-1 : Int32) + (1 : Int32)) = (0 : Int32) from by decide]
      show Steps p.tables e below (T8.setTop (mkF m 52 #[.val (.ref u0), .val (.int (1 : Int32)), .val (.long c1), .second, .val (.int (-1 : Int32))] [(.int (0 : Int32)), (.ref u0)])) _
      refine XS.lloadN X8.here hx rfl (hb hby d3_52) rfl ?_
      show Steps p.tables e below (T8.setTop (mkF m 53 #[.val (.ref u0), .val (.int (1 : Int32)), .val (.long c1), .second, .val (.int (-1 : Int32))] [(.long c1), (.int (0 : Int32)), (.ref u0)])) _
      refine st10 _ ?_
      show Steps p.tables e below (T10.setTop (mkF m 54 #[.val (.ref u0), .val (.int (1 : Int32)), .val (.long c1), .second, .val (.int (-1 : Int32))] [])) _
      refine XS.iinc X10.here hx rfl (hb hby d3_54) rfl (l' := #[.val (.ref u0), .val (.int ((1 : Int32) + (1 : Int32))), .val (.long c1), .second, .val (.int (-1 : Int32))]) rfl ?_
      rw [show ((1 : Int32) + (1 : Int32)) = (2 : Int32) from by decide]
      show Steps p.tables e below (T10.setTop (mkF m 57 #[.val (.ref u0), .val (.int (2 : Int32)), .val (.long c1), .second, .val (.int (-1 : Int32))] [])) _
      refine XS.goto X10.here hx rfl (pc0 := 57) (pc' := 2) rfl (hb hby d3_57) (by decide) (by decide) ?_
      show Steps p.tables e below (T10.setTop (mkF m 2 #[.val (.ref u0), .val (.int (2 : Int32)), .val (.long c1), .second, .val (.int (-1 : Int32))] [])) _
      refine XS.iloadN X10.here hx rfl (hb hby d3_2) rfl ?_
      show Steps p.tables e below (T10.setTop (mkF m 3 #[.val (.ref u0), .val (.int (2 : Int32)), .val (.long c1), .second, .val (.int (-1 : Int32))] [(.int (2 : Int32))])) _
      refine XS.aloadN X10.here hx rfl (hb hby d3_3) rfl rfl ?_
      show Steps p.tables e below (T10.setTop (mkF m 4 #[.val (.ref u0), .val (.int (2 : Int32)), .val (.long c1), .second, .val (.int (-1 : Int32))] [(.ref u0), (.int (2 : Int32))])) _
      refine X10.arraylength hx (by rw [e10]; exact Ar11.1) (State.isArrayOf_alike hZ.alike Ar11.2.1) (g := (mkF m 4 #[.val (.ref u0), .val (.int (2 : Int32)), .val (.long c1), .second, .val (.int (-1 : Int32))] [(.ref u0), (.int (2 : Int32))])) rfl rfl (hb hby d3_4) _ ?_
      rw [len_of S11 M11]
      show Steps p.tables e below (T10.setTop (mkF m 5 #[.val (.ref u0), .val (.int (2 : Int32)), .val (.long c1), .second, .val (.int (-1 : Int32))] [(.int (3 : Int32)), (.int (2 : Int32))])) _
      refine XS.icmpNo X10.here hx rfl (hb hby d3_5) rfl (tlt (by decide : (2 : Int32) < (3 : Int32))).2.1 ?_
      show Steps p.tables e below (T10.setTop (mkF m 8 #[.val (.ref u0), .val (.int (2 : Int32)), .val (.long c1), .second, .val (.int (-1 : Int32))] [])) _
      refine XS.aloadN X10.here hx rfl (hb hby d3_8) rfl rfl ?_
      show Steps p.tables e below (T10.setTop (mkF m 9 #[.val (.ref u0), .val (.int (2 : Int32)), .val (.long c1), .second, .val (.int (-1 : Int32))] [(.ref u0)])) _
      refine XS.iloadN X10.here hx rfl (hb hby d3_9) rfl ?_
      show Steps p.tables e below (T10.setTop (mkF m 10 #[.val (.ref u0), .val (.int (2 : Int32)), .val (.long c1), .second, .val (.int (-1 : Int32))] [(.int (2 : Int32)), (.ref u0)])) _
      refine X10.laload hx (j := (2 : Int32)) (v := (.long c2)) (by rw [e10]; exact Ar12.1) (State.isArrayOf_alike hZ.alike Ar12.2.1) Ar12.2.2 hin12 hat12 (g := (mkF m 10 #[.val (.ref u0), .val (.int (2 : Int32)), .val (.long c1), .second, .val (.int (-1 : Int32))] [(.int (2 : Int32)), (.ref u0)])) rfl rfl (hb hby d3_10) _ ?_
      show Steps p.tables e below (T10.setTop (mkF m 11 #[.val (.ref u0), .val (.int (2 : Int32)), .val (.long c1), .second, .val (.int (-1 : Int32))] [(.long c2)])) _
      refine XS.lstoreN X10.here hx rfl (hb hby d3_11) rfl (l' := #[.val (.ref u0), .val (.int (2 : Int32)), .val (.long c2), .second, .val (.int (-1 : Int32))]) rfl ?_
      show Steps p.tables e below (T10.setTop (mkF m 12 #[.val (.ref u0), .val (.int (2 : Int32)), .val (.long c2), .second, .val (.int (-1 : Int32))] [])) _
      refine XS.iloadN X10.here hx rfl (hb hby d3_12) rfl ?_
      show Steps p.tables e below (T10.setTop (mkF m 13 #[.val (.ref u0), .val (.int (2 : Int32)), .val (.long c2), .second, .val (.int (-1 : Int32))] [(.int (2 : Int32))])) _
      refine XS.iconst X10.here hx rfl (hb hby d3_13) ?_
      show Steps p.tables e below (T10.setTop (mkF m 14 #[.val (.ref u0), .val (.int (2 : Int32)), .val (.long c2), .second, .val (.int (-1 : Int32))] [(.int (1 : Int32)), (.int (2 : Int32))])) _
      refine XS.isub X10.here hx rfl (hb hby d3_14) rfl ?_
      rw [show ((2 : Int32) - (1 : Int32)) = (1 : Int32) from by decide]
      show Steps p.tables e below (T10.setTop (mkF m 15 #[.val (.ref u0), .val (.int (2 : Int32)), .val (.long c2), .second, .val (.int (-1 : Int32))] [(.int (1 : Int32))])) _
      refine XS.istore X10.here hx rfl (hb hby d3_15) rfl (l' := #[.val (.ref u0), .val (.int (2 : Int32)), .val (.long c2), .second, .val (.int (1 : Int32))]) rfl ?_
      show Steps p.tables e below (T10.setTop (mkF m 17 #[.val (.ref u0), .val (.int (2 : Int32)), .val (.long c2), .second, .val (.int (1 : Int32))] [])) _
      refine XS.iload X10.here hx rfl (hb hby d3_17) rfl ?_
      show Steps p.tables e below (T10.setTop (mkF m 19 #[.val (.ref u0), .val (.int (2 : Int32)), .val (.long c2), .second, .val (.int (1 : Int32))] [(.int (1 : Int32))])) _
      refine XS.ifNo X10.here hx rfl (hb hby d3_19) rfl ((if0 _ _).trans (flt (by decide : ¬ ((1 : Int32) < (0 : Int32)))).1) ?_
      show Steps p.tables e below (T10.setTop (mkF m 22 #[.val (.ref u0), .val (.int (2 : Int32)), .val (.long c2), .second, .val (.int (1 : Int32))] [])) _
      refine XS.aloadN X10.here hx rfl (hb hby d3_22) rfl rfl ?_
      show Steps p.tables e below (T10.setTop (mkF m 23 #[.val (.ref u0), .val (.int (2 : Int32)), .val (.long c2), .second, .val (.int (1 : Int32))] [(.ref u0)])) _
      refine XS.iload X10.here hx rfl (hb hby d3_23) rfl ?_
      show Steps p.tables e below (T10.setTop (mkF m 25 #[.val (.ref u0), .val (.int (2 : Int32)), .val (.long c2), .second, .val (.int (1 : Int32))] [(.int (1 : Int32)), (.ref u0)])) _
      refine X10.laload hx (j := (1 : Int32)) (v := (.long c0)) (by rw [e10]; exact Ar13.1) (State.isArrayOf_alike hZ.alike Ar13.2.1) Ar13.2.2 hin13 hat13 (g := (mkF m 25 #[.val (.ref u0), .val (.int (2 : Int32)), .val (.long c2), .second, .val (.int (1 : Int32))] [(.int (1 : Int32)), (.ref u0)])) rfl rfl (hb hby d3_25) _ ?_
      show Steps p.tables e below (T10.setTop (mkF m 26 #[.val (.ref u0), .val (.int (2 : Int32)), .val (.long c2), .second, .val (.int (1 : Int32))] [(.long c0)])) _
      refine XS.lloadN X10.here hx rfl (hb hby d3_26) rfl ?_
      show Steps p.tables e below (T10.setTop (mkF m 27 #[.val (.ref u0), .val (.int (2 : Int32)), .val (.long c2), .second, .val (.int (1 : Int32))] [(.long c2), (.long c0)])) _
      refine XS.lcmp X10.here hx rfl (hb hby d3_27) rfl ?_
      exact kt
    refine Done.of ?_ K14
    by_cases hc28_15 : c0 < c2
    · have K : ∀ target, Steps p.tables e below (T10.setTop (mkF m 31 #[.val (.ref u0), .val (.int (2 : Int32)), .val (.long c2), .second, .val (.int (1 : Int32))] [])) target → Steps p.tables e below (T10.setTop (mkF m 28 #[.val (.ref u0), .val (.int (2 : Int32)), .val (.long c2), .second, .val (.int (1 : Int32))] [(.int (lcmpW c0 c2))])) target := by
        intro target kt
        refine XS.ifNo X10.here hx rfl (hb hby d3_28) rfl ((if0 _ _).trans (tlt ((lw_lt c0 c2).mpr hc28_15)).2.1) ?_
        exact kt
      refine Done.of ?_ K
      obtain ⟨cl16, Ar16, qq16, S16, M16, H16, G16⟩ := id V10
      have hin16 : ¬ ((1 : Int32) < 0 ∨ cl16.slots.size ≤ ((1 : Int32)).toNatClampNeg) := inb_of S16 ⟨by decide, by decide⟩
      have hat16 : cl16.slots[((1 : Int32)).toNatClampNeg]? = some (.long c0) := H16 1 (by rw [S16]; decide)
      obtain ⟨cl17, Ar17, qq17, S17, M17, H17, G17⟩ := id V10
      have hin17 : ¬ ((2 : Int32) < 0 ∨ cl17.slots.size ≤ ((2 : Int32)).toNatClampNeg) := inb_of S17 ⟨by decide, by decide⟩
      obtain ⟨T18, h18, X18, e18, W18, st18⟩ := stJ X10 hx hZ e10 Ar17 (j := (2 : Int32)) hin17 (g := (mkF m 40 #[.val (.ref u0), .val (.int (2 : Int32)), .val (.long c2), .second, .val (.int (1 : Int32))] [(.long c0), (.int (2 : Int32)), (.ref u0)])) rfl rfl (hb hby d3_40)
      have V18 : Arv Z h18 u0 kA .long (3 : Int32) [(.long c1), (.long c0), (.long c0)] _ := Arv.set Ar17 qq17 S17 M17 H17 G17 rfl W18 2 rfl (Nat.le_of_ble_eq_true rfl)
      have N18 := Fr.snoc X18 N10 g0
      have Z18 : n0 ≤ h18.size := Nat.le_trans Z10 (Nat.le_of_eq W18.size.symm)
      have Kp18 := Kp10.wr W18 (Or.inl (List.mem_of_getElem? (i := 0) rfl))
      obtain ⟨cl19, Ar19, qq19, S19, M19, H19, G19⟩ := id V18
      have hin19 : ¬ ((0 : Int32) < 0 ∨ cl19.slots.size ≤ ((0 : Int32)).toNatClampNeg) := inb_of S19 ⟨by decide, by decide⟩
      have hat19 : cl19.slots[((0 : Int32)).toNatClampNeg]? = some (.long c1) := H19 0 (by rw [S19]; decide)
      have K20 : ∀ target, Steps p.tables e below (T18.setTop (mkF m 28 #[.val (.ref u0), .val (.int (2 : Int32)), .val (.long c2), .second, .val (.int (0 : Int32))] [(.int (lcmpW c1 c2))])) target → Steps p.tables e below (T10.setTop (mkF m 31 #[.val (.ref u0), .val (.int (2 : Int32)), .val (.long c2), .second, .val (.int (1 : Int32))] [])) target := by
        intro target kt
        show Steps p.tables e below (T10.setTop (mkF m 31 #[.val (.ref u0), .val (.int (2 : Int32)), .val (.long c2), .second, .val (.int (1 : Int32))] [])) _
        refine XS.aloadN X10.here hx rfl (hb hby d3_31) rfl rfl ?_
        show Steps p.tables e below (T10.setTop (mkF m 32 #[.val (.ref u0), .val (.int (2 : Int32)), .val (.long c2), .second, .val (.int (1 : Int32))] [(.ref u0)])) _
        refine XS.iload X10.here hx rfl (hb hby d3_32) rfl ?_
        show Steps p.tables e below (T10.setTop (mkF m 34 #[.val (.ref u0), .val (.int (2 : Int32)), .val (.long c2), .second, .val (.int (1 : Int32))] [(.int (1 : Int32)), (.ref u0)])) _
        refine XS.iconst X10.here hx rfl (hb hby d3_34) ?_
        show Steps p.tables e below (T10.setTop (mkF m 35 #[.val (.ref u0), .val (.int (2 : Int32)), .val (.long c2), .second, .val (.int (1 : Int32))] [(.int (1 : Int32)), (.int (1 : Int32)), (.ref u0)])) _
        refine XS.iadd X10.here hx rfl (hb hby d3_35) rfl ?_
        rw [show ((1 : Int32) + (1 : Int32)) = (2 : Int32) from by decide]
        show Steps p.tables e below (T10.setTop (mkF m 36 #[.val (.ref u0), .val (.int (2 : Int32)), .val (.long c2), .second, .val (.int (1 : Int32))] [(.int (2 : Int32)), (.ref u0)])) _
        refine XS.aloadN X10.here hx rfl (hb hby d3_36) rfl rfl ?_
        show Steps p.tables e below (T10.setTop (mkF m 37 #[.val (.ref u0), .val (.int (2 : Int32)), .val (.long c2), .second, .val (.int (1 : Int32))] [(.ref u0), (.int (2 : Int32)), (.ref u0)])) _
        refine XS.iload X10.here hx rfl (hb hby d3_37) rfl ?_
        show Steps p.tables e below (T10.setTop (mkF m 39 #[.val (.ref u0), .val (.int (2 : Int32)), .val (.long c2), .second, .val (.int (1 : Int32))] [(.int (1 : Int32)), (.ref u0), (.int (2 : Int32)), (.ref u0)])) _
        refine X10.laload hx (j := (1 : Int32)) (v := (.long c0)) (by rw [e10]; exact Ar16.1) (State.isArrayOf_alike hZ.alike Ar16.2.1) Ar16.2.2 hin16 hat16 (g := (mkF m 39 #[.val (.ref u0), .val (.int (2 : Int32)), .val (.long c2), .second, .val (.int (1 : Int32))] [(.int (1 : Int32)), (.ref u0), (.int (2 : Int32)), (.ref u0)])) rfl rfl (hb hby d3_39) _ ?_
        show Steps p.tables e below (T10.setTop (mkF m 40 #[.val (.ref u0), .val (.int (2 : Int32)), .val (.long c2), .second, .val (.int (1 : Int32))] [(.long c0), (.int (2 : Int32)), (.ref u0)])) _
        refine st18 _ ?_
        show Steps p.tables e below (T18.setTop (mkF m 41 #[.val (.ref u0), .val (.int (2 : Int32)), .val (.long c2), .second, .val (.int (1 : Int32))] [])) _
        refine XS.iinc X18.here hx rfl (hb hby d3_41) rfl (l' := #[.val (.ref u0), .val (.int (2 : Int32)), .val (.long c2), .second, .val (.int ((1 : Int32) + (-1 : Int32)))]) rfl ?_
        rw [show ((1 : Int32) + (-1 : Int32)) = (0 : Int32) from by decide]
        show Steps p.tables e below (T18.setTop (mkF m 44 #[.val (.ref u0), .val (.int (2 : Int32)), .val (.long c2), .second, .val (.int (0 : Int32))] [])) _
        refine XS.goto X18.here hx rfl (pc0 := 44) (pc' := 17) rfl (hb hby d3_44) (by decide) (by decide) ?_
        show Steps p.tables e below (T18.setTop (mkF m 17 #[.val (.ref u0), .val (.int (2 : Int32)), .val (.long c2), .second, .val (.int (0 : Int32))] [])) _
        refine XS.iload X18.here hx rfl (hb hby d3_17) rfl ?_
        show Steps p.tables e below (T18.setTop (mkF m 19 #[.val (.ref u0), .val (.int (2 : Int32)), .val (.long c2), .second, .val (.int (0 : Int32))] [(.int (0 : Int32))])) _
        refine XS.ifNo X18.here hx rfl (hb hby d3_19) rfl ((if0 _ _).trans (flt (by decide : ¬ ((0 : Int32) < (0 : Int32)))).1) ?_
        show Steps p.tables e below (T18.setTop (mkF m 22 #[.val (.ref u0), .val (.int (2 : Int32)), .val (.long c2), .second, .val (.int (0 : Int32))] [])) _
        refine XS.aloadN X18.here hx rfl (hb hby d3_22) rfl rfl ?_
        show Steps p.tables e below (T18.setTop (mkF m 23 #[.val (.ref u0), .val (.int (2 : Int32)), .val (.long c2), .second, .val (.int (0 : Int32))] [(.ref u0)])) _
        refine XS.iload X18.here hx rfl (hb hby d3_23) rfl ?_
        show Steps p.tables e below (T18.setTop (mkF m 25 #[.val (.ref u0), .val (.int (2 : Int32)), .val (.long c2), .second, .val (.int (0 : Int32))] [(.int (0 : Int32)), (.ref u0)])) _
        refine X18.laload hx (j := (0 : Int32)) (v := (.long c1)) (by rw [e18]; exact Ar19.1) (State.isArrayOf_alike hZ.alike Ar19.2.1) Ar19.2.2 hin19 hat19 (g := (mkF m 25 #[.val (.ref u0), .val (.int (2 : Int32)), .val (.long c2), .second, .val (.int (0 : Int32))] [(.int (0 : Int32)), (.ref u0)])) rfl rfl (hb hby d3_25) _ ?_
        show Steps p.tables e below (T18.setTop (mkF m 26 #[.val (.ref u0), .val (.int (2 : Int32)), .val (.long c2), .second, .val (.int (0 : Int32))] [(.long c1)])) _
        refine XS.lloadN X18.here hx rfl (hb hby d3_26) rfl ?_
        show Steps p.tables e below (T18.setTop (mkF m 27 #[.val (.ref u0), .val (.int (2 : Int32)), .val (.long c2), .second, .val (.int (0 : Int32))] [(.long c2), (.long c1)])) _
        refine XS.lcmp X18.here hx rfl (hb hby d3_27) rfl ?_
        exact kt
      refine Done.of ?_ K20
      by_cases hc28_21 : c1 < c2
      · have K : ∀ target, Steps p.tables e below (T18.setTop (mkF m 31 #[.val (.ref u0), .val (.int (2 : Int32)), .val (.long c2), .second, .val (.int (0 : Int32))] [])) target → Steps p.tables e below (T18.setTop (mkF m 28 #[.val (.ref u0), .val (.int (2 : Int32)), .val (.long c2), .second, .val (.int (0 : Int32))] [(.int (lcmpW c1 c2))])) target := by
          intro target kt
          refine XS.ifNo X18.here hx rfl (hb hby d3_28) rfl ((if0 _ _).trans (tlt ((lw_lt c1 c2).mpr hc28_21)).2.1) ?_
          exact kt
        refine Done.of ?_ K
        obtain ⟨cl22, Ar22, qq22, S22, M22, H22, G22⟩ := id V18
        have hin22 : ¬ ((0 : Int32) < 0 ∨ cl22.slots.size ≤ ((0 : Int32)).toNatClampNeg) := inb_of S22 ⟨by decide, by decide⟩
        have hat22 : cl22.slots[((0 : Int32)).toNatClampNeg]? = some (.long c1) := H22 0 (by rw [S22]; decide)
        obtain ⟨cl23, Ar23, qq23, S23, M23, H23, G23⟩ := id V18
        have hin23 : ¬ ((1 : Int32) < 0 ∨ cl23.slots.size ≤ ((1 : Int32)).toNatClampNeg) := inb_of S23 ⟨by decide, by decide⟩
        obtain ⟨T24, h24, X24, e24, W24, st24⟩ := stJ X18 hx hZ e18 Ar23 (j := (1 : Int32)) hin23 (g := (mkF m 40 #[.val (.ref u0), .val (.int (2 : Int32)), .val (.long c2), .second, .val (.int (0 : Int32))] [(.long c1), (.int (1 : Int32)), (.ref u0)])) rfl rfl (hb hby d3_40)
        have V24 : Arv Z h24 u0 kA .long (3 : Int32) [(.long c1), (.long c1), (.long c0)] _ := Arv.set Ar23 qq23 S23 M23 H23 G23 rfl W24 1 rfl (Nat.le_of_ble_eq_true rfl)
        have N24 := Fr.snoc X24 N18 g0
        have Z24 : n0 ≤ h24.size := Nat.le_trans Z18 (Nat.le_of_eq W24.size.symm)
        have Kp24 := Kp18.wr W24 (Or.inl (List.mem_of_getElem? (i := 0) rfl))
        obtain ⟨cl25, Ar25, qq25, S25, M25, H25, G25⟩ := id V24
        have hin25 : ¬ ((0 : Int32) < 0 ∨ cl25.slots.size ≤ ((0 : Int32)).toNatClampNeg) := inb_of S25 ⟨by decide, by decide⟩
        obtain ⟨T26, h26, X26, e26, W26, st26⟩ := stJ X24 hx hZ e24 Ar25 (j := (0 : Int32)) hin25 (g := (mkF m 53 #[.val (.ref u0), .val (.int (2 : Int32)), .val (.long c2), .second, .val (.int (-1 : Int32))] [(.long c2), (.int (0 : Int32)), (.ref u0)])) rfl rfl (hb hby d3_53)
        have V26 : Arv Z h26 u0 kA .long (3 : Int32) [(.long c2), (.long c1), (.long c0)] _ := Arv.set Ar25 qq25 S25 M25 H25 G25 rfl W26 0 rfl (Nat.le_of_ble_eq_true rfl)
        have N26 := Fr.snoc X26 N24 g0
        have Z26 : n0 ≤ h26.size := Nat.le_trans Z24 (Nat.le_of_eq W26.size.symm)
        have Kp26 := Kp24.wr W26 (Or.inl (List.mem_of_getElem? (i := 0) rfl))
        obtain ⟨cl27, Ar27, qq27, S27, M27, H27, G27⟩ := id V26
        obtain ⟨fs, hr, hrun, hended, hW, hsame⟩ := X26.leave (v := none) (fun _ => rfl)
        refine ⟨_, _, ?_, hrun, hended, _, _, rfl, ?_, ⟨_, rfl⟩, hW, hsame.mono (by decide) (by decide)⟩
        · show Steps p.tables e below (T18.setTop (mkF m 31 #[.val (.ref u0), .val (.int (2 : Int32)), .val (.long c2), .second, .val (.int (0 : Int32))] [])) _
          refine XS.aloadN X18.here hx rfl (hb hby d3_31) rfl rfl ?_
          show Steps p.tables e below (T18.setTop (mkF m 32 #[.val (.ref u0), .val (.int (2 : Int32)), .val (.long c2), .second, .val (.int (0 : Int32))] [(.ref u0)])) _
          refine XS.iload X18.here hx rfl (hb hby d3_32) rfl ?_
          show Steps p.tables e below (T18.setTop (mkF m 34 #[.val (.ref u0), .val (.int (2 : Int32)), .val (.long c2), .second, .val (.int (0 : Int32))] [(.int (0 : Int32)), (.ref u0)])) _
          refine XS.iconst X18.here hx rfl (hb hby d3_34) ?_
          show Steps p.tables e below (T18.setTop (mkF m 35 #[.val (.ref u0), .val (.int (2 : Int32)), .val (.long c2), .second, .val (.int (0 : Int32))] [(.int (1 : Int32)), (.int (0 : Int32)), (.ref u0)])) _
          refine XS.iadd X18.here hx rfl (hb hby d3_35) rfl ?_
          rw [show ((0 : Int32) + (1 : Int32)) = (1 : Int32) from by decide]
          show Steps p.tables e below (T18.setTop (mkF m 36 #[.val (.ref u0), .val (.int (2 : Int32)), .val (.long c2), .second, .val (.int (0 : Int32))] [(.int (1 : Int32)), (.ref u0)])) _
          refine XS.aloadN X18.here hx rfl (hb hby d3_36) rfl rfl ?_
          show Steps p.tables e below (T18.setTop (mkF m 37 #[.val (.ref u0), .val (.int (2 : Int32)), .val (.long c2), .second, .val (.int (0 : Int32))] [(.ref u0), (.int (1 : Int32)), (.ref u0)])) _
          refine XS.iload X18.here hx rfl (hb hby d3_37) rfl ?_
          show Steps p.tables e below (T18.setTop (mkF m 39 #[.val (.ref u0), .val (.int (2 : Int32)), .val (.long c2), .second, .val (.int (0 : Int32))] [(.int (0 : Int32)), (.ref u0), (.int (1 : Int32)), (.ref u0)])) _
          refine X18.laload hx (j := (0 : Int32)) (v := (.long c1)) (by rw [e18]; exact Ar22.1) (State.isArrayOf_alike hZ.alike Ar22.2.1) Ar22.2.2 hin22 hat22 (g := (mkF m 39 #[.val (.ref u0), .val (.int (2 : Int32)), .val (.long c2), .second, .val (.int (0 : Int32))] [(.int (0 : Int32)), (.ref u0), (.int (1 : Int32)), (.ref u0)])) rfl rfl (hb hby d3_39) _ ?_
          show Steps p.tables e below (T18.setTop (mkF m 40 #[.val (.ref u0), .val (.int (2 : Int32)), .val (.long c2), .second, .val (.int (0 : Int32))] [(.long c1), (.int (1 : Int32)), (.ref u0)])) _
          refine st24 _ ?_
          show Steps p.tables e below (T24.setTop (mkF m 41 #[.val (.ref u0), .val (.int (2 : Int32)), .val (.long c2), .second, .val (.int (0 : Int32))] [])) _
          refine XS.iinc X24.here hx rfl (hb hby d3_41) rfl (l' := #[.val (.ref u0), .val (.int (2 : Int32)), .val (.long c2), .second, .val (.int ((0 : Int32) + (-1 : Int32)))]) rfl ?_
          rw [show ((0 : Int32) + (-1 : Int32)) = (-1 : Int32) from by decide]
          show Steps p.tables e below (T24.setTop (mkF m 44 #[.val (.ref u0), .val (.int (2 : Int32)), .val (.long c2), .second, .val (.int (-1 : Int32))] [])) _
          refine XS.goto X24.here hx rfl (pc0 := 44) (pc' := 17) rfl (hb hby d3_44) (by decide) (by decide) ?_
          show Steps p.tables e below (T24.setTop (mkF m 17 #[.val (.ref u0), .val (.int (2 : Int32)), .val (.long c2), .second, .val (.int (-1 : Int32))] [])) _
          refine XS.iload X24.here hx rfl (hb hby d3_17) rfl ?_
          show Steps p.tables e below (T24.setTop (mkF m 19 #[.val (.ref u0), .val (.int (2 : Int32)), .val (.long c2), .second, .val (.int (-1 : Int32))] [(.int (-1 : Int32))])) _
          refine XS.ifYes X24.here hx rfl (pc0 := 19) (pc' := 47) rfl (hb hby d3_19) rfl ((if0 _ _).trans (tlt (by decide : (-1 : Int32) < (0 : Int32))).1) (by decide) (by decide) ?_
          show Steps p.tables e below (T24.setTop (mkF m 47 #[.val (.ref u0), .val (.int (2 : Int32)), .val (.long c2), .second, .val (.int (-1 : Int32))] [])) _
          refine XS.aloadN X24.here hx rfl (hb hby d3_47) rfl rfl ?_
          show Steps p.tables e below (T24.setTop (mkF m 48 #[.val (.ref u0), .val (.int (2 : Int32)), .val (.long c2), .second, .val (.int (-1 : Int32))] [(.ref u0)])) _
          refine XS.iload X24.here hx rfl (hb hby d3_48) rfl ?_
          show Steps p.tables e below (T24.setTop (mkF m 50 #[.val (.ref u0), .val (.int (2 : Int32)), .val (.long c2), .second, .val (.int (-1 : Int32))] [(.int (-1 : Int32)), (.ref u0)])) _
          refine XS.iconst X24.here hx rfl (hb hby d3_50) ?_
          show Steps p.tables e below (T24.setTop (mkF m 51 #[.val (.ref u0), .val (.int (2 : Int32)), .val (.long c2), .second, .val (.int (-1 : Int32))] [(.int (1 : Int32)), (.int (-1 : Int32)), (.ref u0)])) _
          refine XS.iadd X24.here hx rfl (hb hby d3_51) rfl ?_
          rw [show ((-1 : Int32) + (1 : Int32)) = (0 : Int32) from by decide]
          show Steps p.tables e below (T24.setTop (mkF m 52 #[.val (.ref u0), .val (.int (2 : Int32)), .val (.long c2), .second, .val (.int (-1 : Int32))] [(.int (0 : Int32)), (.ref u0)])) _
          refine XS.lloadN X24.here hx rfl (hb hby d3_52) rfl ?_
          show Steps p.tables e below (T24.setTop (mkF m 53 #[.val (.ref u0), .val (.int (2 : Int32)), .val (.long c2), .second, .val (.int (-1 : Int32))] [(.long c2), (.int (0 : Int32)), (.ref u0)])) _
          refine st26 _ ?_
          show Steps p.tables e below (T26.setTop (mkF m 54 #[.val (.ref u0), .val (.int (2 : Int32)), .val (.long c2), .second, .val (.int (-1 : Int32))] [])) _
          refine XS.iinc X26.here hx rfl (hb hby d3_54) rfl (l' := #[.val (.ref u0), .val (.int ((2 : Int32) + (1 : Int32))), .val (.long c2), .second, .val (.int (-1 : Int32))]) rfl ?_
          rw [show ((2 : Int32) + (1 : Int32)) = (3 : Int32) from by decide]
          show Steps p.tables e below (T26.setTop (mkF m 57 #[.val (.ref u0), .val (.int (3 : Int32)), .val (.long c2), .second, .val (.int (-1 : Int32))] [])) _
          refine XS.goto X26.here hx rfl (pc0 := 57) (pc' := 2) rfl (hb hby d3_57) (by decide) (by decide) ?_
          show Steps p.tables e below (T26.setTop (mkF m 2 #[.val (.ref u0), .val (.int (3 : Int32)), .val (.long c2), .second, .val (.int (-1 : Int32))] [])) _
          refine XS.iloadN X26.here hx rfl (hb hby d3_2) rfl ?_
          show Steps p.tables e below (T26.setTop (mkF m 3 #[.val (.ref u0), .val (.int (3 : Int32)), .val (.long c2), .second, .val (.int (-1 : Int32))] [(.int (3 : Int32))])) _
          refine XS.aloadN X26.here hx rfl (hb hby d3_3) rfl rfl ?_
          show Steps p.tables e below (T26.setTop (mkF m 4 #[.val (.ref u0), .val (.int (3 : Int32)), .val (.long c2), .second, .val (.int (-1 : Int32))] [(.ref u0), (.int (3 : Int32))])) _
          refine X26.arraylength hx (by rw [e26]; exact Ar27.1) (State.isArrayOf_alike hZ.alike Ar27.2.1) (g := (mkF m 4 #[.val (.ref u0), .val (.int (3 : Int32)), .val (.long c2), .second, .val (.int (-1 : Int32))] [(.ref u0), (.int (3 : Int32))])) rfl rfl (hb hby d3_4) _ ?_
          rw [len_of S27 M27]
          show Steps p.tables e below (T26.setTop (mkF m 5 #[.val (.ref u0), .val (.int (3 : Int32)), .val (.long c2), .second, .val (.int (-1 : Int32))] [(.int (3 : Int32)), (.int (3 : Int32))])) _
          refine XS.icmpYes X26.here hx rfl (pc0 := 5) (pc' := 60) rfl (hb hby d3_5) rfl (flt (by decide : ¬ ((3 : Int32) < (3 : Int32)))).2.1 (by decide) (by decide) ?_
          show Steps p.tables e below (T26.setTop (mkF m 60 #[.val (.ref u0), .val (.int (3 : Int32)), .val (.long c2), .second, .val (.int (-1 : Int32))] [])) _
          exact X26.returnOut hx Bd.returns (hb hby d3_60) hr
        · show Q3n3 Z u0 kA dv c0 c1 c2 h0 n0 _ T26.heap _
          rw [e26]
          have k0 := Int64.lt_iff_toInt_lt.mp hc28_5
          have k1 := Int64.lt_iff_toInt_lt.mp hc28_15
          have k2 := Int64.lt_iff_toInt_lt.mp hc28_21
          have r0 : (own_X (own_X c0 c1) c2) = c2 := by
            apply Int64.toInt_inj.mp
            simp only [own_xi, own_ni]
            omega
          have r1 : (own_X (own_N c0 c1) (own_N (own_X c0 c1) c2)) = c1 := by
            apply Int64.toInt_inj.mp
            simp only [own_xi, own_ni]
            omega
          have r2 : (own_N (own_N c0 c1) (own_N (own_X c0 c1) c2)) = c0 := by
            apply Int64.toInt_inj.mp
            simp only [own_xi, own_ni]
            omega
          refine ⟨rfl, N26, Kp26, ?_⟩
          rw [r0, r1, r2]
          exact V26
      · have K : ∀ target, Steps p.tables e below (T18.setTop (mkF m 47 #[.val (.ref u0), .val (.int (2 : Int32)), .val (.long c2), .second, .val (.int (0 : Int32))] [])) target → Steps p.tables e below (T18.setTop (mkF m 28 #[.val (.ref u0), .val (.int (2 : Int32)), .val (.long c2), .second, .val (.int (0 : Int32))] [(.int (lcmpW c1 c2))])) target := by
          intro target kt
          refine XS.ifYes X18.here hx rfl (pc0 := 28) (pc' := 47) rfl (hb hby d3_28) rfl ((if0 _ _).trans (flt (fun q => hc28_21 ((lw_lt c1 c2).mp q))).2.1) (by decide) (by decide) ?_
          exact kt
        refine Done.of ?_ K
        obtain ⟨cl28, Ar28, qq28, S28, M28, H28, G28⟩ := id V18
        have hin28 : ¬ ((1 : Int32) < 0 ∨ cl28.slots.size ≤ ((1 : Int32)).toNatClampNeg) := inb_of S28 ⟨by decide, by decide⟩
        obtain ⟨T29, h29, X29, e29, W29, st29⟩ := stJ X18 hx hZ e18 Ar28 (j := (1 : Int32)) hin28 (g := (mkF m 53 #[.val (.ref u0), .val (.int (2 : Int32)), .val (.long c2), .second, .val (.int (0 : Int32))] [(.long c2), (.int (1 : Int32)), (.ref u0)])) rfl rfl (hb hby d3_53)
        have V29 : Arv Z h29 u0 kA .long (3 : Int32) [(.long c1), (.long c2), (.long c0)] _ := Arv.set Ar28 qq28 S28 M28 H28 G28 rfl W29 1 rfl (Nat.le_of_ble_eq_true rfl)
        have N29 := Fr.snoc X29 N18 g0
        have Z29 : n0 ≤ h29.size := Nat.le_trans Z18 (Nat.le_of_eq W29.size.symm)
        have Kp29 := Kp18.wr W29 (Or.inl (List.mem_of_getElem? (i := 0) rfl))
        obtain ⟨cl30, Ar30, qq30, S30, M30, H30, G30⟩ := id V29
        obtain ⟨fs, hr, hrun, hended, hW, hsame⟩ := X29.leave (v := none) (fun _ => rfl)
        refine ⟨_, _, ?_, hrun, hended, _, _, rfl, ?_, ⟨_, rfl⟩, hW, hsame.mono (by decide) (by decide)⟩
        · show Steps p.tables e below (T18.setTop (mkF m 47 #[.val (.ref u0), .val (.int (2 : Int32)), .val (.long c2), .second, .val (.int (0 : Int32))] [])) _
          refine XS.aloadN X18.here hx rfl (hb hby d3_47) rfl rfl ?_
          show Steps p.tables e below (T18.setTop (mkF m 48 #[.val (.ref u0), .val (.int (2 : Int32)), .val (.long c2), .second, .val (.int (0 : Int32))] [(.ref u0)])) _
          refine XS.iload X18.here hx rfl (hb hby d3_48) rfl ?_
          show Steps p.tables e below (T18.setTop (mkF m 50 #[.val (.ref u0), .val (.int (2 : Int32)), .val (.long c2), .second, .val (.int (0 : Int32))] [(.int (0 : Int32)), (.ref u0)])) _
          refine XS.iconst X18.here hx rfl (hb hby d3_50) ?_
          show Steps p.tables e below (T18.setTop (mkF m 51 #[.val (.ref u0), .val (.int (2 : Int32)), .val (.long c2), .second, .val (.int (0 : Int32))] [(.int (1 : Int32)), (.int (0 : Int32)), (.ref u0)])) _
          refine XS.iadd X18.here hx rfl (hb hby d3_51) rfl ?_
          rw [show ((0 : Int32) + (1 : Int32)) = (1 : Int32) from by decide]
          show Steps p.tables e below (T18.setTop (mkF m 52 #[.val (.ref u0), .val (.int (2 : Int32)), .val (.long c2), .second, .val (.int (0 : Int32))] [(.int (1 : Int32)), (.ref u0)])) _
          refine XS.lloadN X18.here hx rfl (hb hby d3_52) rfl ?_
          show Steps p.tables e below (T18.setTop (mkF m 53 #[.val (.ref u0), .val (.int (2 : Int32)), .val (.long c2), .second, .val (.int (0 : Int32))] [(.long c2), (.int (1 : Int32)), (.ref u0)])) _
          refine st29 _ ?_
          show Steps p.tables e below (T29.setTop (mkF m 54 #[.val (.ref u0), .val (.int (2 : Int32)), .val (.long c2), .second, .val (.int (0 : Int32))] [])) _
          refine XS.iinc X29.here hx rfl (hb hby d3_54) rfl (l' := #[.val (.ref u0), .val (.int ((2 : Int32) + (1 : Int32))), .val (.long c2), .second, .val (.int (0 : Int32))]) rfl ?_
          rw [show ((2 : Int32) + (1 : Int32)) = (3 : Int32) from by decide]
          show Steps p.tables e below (T29.setTop (mkF m 57 #[.val (.ref u0), .val (.int (3 : Int32)), .val (.long c2), .second, .val (.int (0 : Int32))] [])) _
          refine XS.goto X29.here hx rfl (pc0 := 57) (pc' := 2) rfl (hb hby d3_57) (by decide) (by decide) ?_
          show Steps p.tables e below (T29.setTop (mkF m 2 #[.val (.ref u0), .val (.int (3 : Int32)), .val (.long c2), .second, .val (.int (0 : Int32))] [])) _
          refine XS.iloadN X29.here hx rfl (hb hby d3_2) rfl ?_
          show Steps p.tables e below (T29.setTop (mkF m 3 #[.val (.ref u0), .val (.int (3 : Int32)), .val (.long c2), .second, .val (.int (0 : Int32))] [(.int (3 : Int32))])) _
          refine XS.aloadN X29.here hx rfl (hb hby d3_3) rfl rfl ?_
          show Steps p.tables e below (T29.setTop (mkF m 4 #[.val (.ref u0), .val (.int (3 : Int32)), .val (.long c2), .second, .val (.int (0 : Int32))] [(.ref u0), (.int (3 : Int32))])) _
          refine X29.arraylength hx (by rw [e29]; exact Ar30.1) (State.isArrayOf_alike hZ.alike Ar30.2.1) (g := (mkF m 4 #[.val (.ref u0), .val (.int (3 : Int32)), .val (.long c2), .second, .val (.int (0 : Int32))] [(.ref u0), (.int (3 : Int32))])) rfl rfl (hb hby d3_4) _ ?_
          rw [len_of S30 M30]
          show Steps p.tables e below (T29.setTop (mkF m 5 #[.val (.ref u0), .val (.int (3 : Int32)), .val (.long c2), .second, .val (.int (0 : Int32))] [(.int (3 : Int32)), (.int (3 : Int32))])) _
          refine XS.icmpYes X29.here hx rfl (pc0 := 5) (pc' := 60) rfl (hb hby d3_5) rfl (flt (by decide : ¬ ((3 : Int32) < (3 : Int32)))).2.1 (by decide) (by decide) ?_
          show Steps p.tables e below (T29.setTop (mkF m 60 #[.val (.ref u0), .val (.int (3 : Int32)), .val (.long c2), .second, .val (.int (0 : Int32))] [])) _
          exact X29.returnOut hx Bd.returns (hb hby d3_60) hr
        · show Q3n3 Z u0 kA dv c0 c1 c2 h0 n0 _ T29.heap _
          rw [e29]
          have k0 := Int64.lt_iff_toInt_lt.mp hc28_5
          have k1 := Int64.lt_iff_toInt_lt.mp hc28_15
          have k2 := mt Int64.lt_iff_toInt_lt.mpr hc28_21
          have r0 : (own_X (own_X c0 c1) c2) = c1 := by
            apply Int64.toInt_inj.mp
            simp only [own_xi, own_ni]
            omega
          have r1 : (own_X (own_N c0 c1) (own_N (own_X c0 c1) c2)) = c2 := by
            apply Int64.toInt_inj.mp
            simp only [own_xi, own_ni]
            omega
          have r2 : (own_N (own_N c0 c1) (own_N (own_X c0 c1) c2)) = c0 := by
            apply Int64.toInt_inj.mp
            simp only [own_xi, own_ni]
            omega
          refine ⟨rfl, N29, Kp29, ?_⟩
          rw [r0, r1, r2]
          exact V29
    · have K : ∀ target, Steps p.tables e below (T10.setTop (mkF m 47 #[.val (.ref u0), .val (.int (2 : Int32)), .val (.long c2), .second, .val (.int (1 : Int32))] [])) target → Steps p.tables e below (T10.setTop (mkF m 28 #[.val (.ref u0), .val (.int (2 : Int32)), .val (.long c2), .second, .val (.int (1 : Int32))] [(.int (lcmpW c0 c2))])) target := by
        intro target kt
        refine XS.ifYes X10.here hx rfl (pc0 := 28) (pc' := 47) rfl (hb hby d3_28) rfl ((if0 _ _).trans (flt (fun q => hc28_15 ((lw_lt c0 c2).mp q))).2.1) (by decide) (by decide) ?_
        exact kt
      refine Done.of ?_ K
      obtain ⟨cl31, Ar31, qq31, S31, M31, H31, G31⟩ := id V10
      have hin31 : ¬ ((2 : Int32) < 0 ∨ cl31.slots.size ≤ ((2 : Int32)).toNatClampNeg) := inb_of S31 ⟨by decide, by decide⟩
      obtain ⟨T32, h32, X32, e32, W32, st32⟩ := stJ X10 hx hZ e10 Ar31 (j := (2 : Int32)) hin31 (g := (mkF m 53 #[.val (.ref u0), .val (.int (2 : Int32)), .val (.long c2), .second, .val (.int (1 : Int32))] [(.long c2), (.int (2 : Int32)), (.ref u0)])) rfl rfl (hb hby d3_53)
      have V32 : Arv Z h32 u0 kA .long (3 : Int32) [(.long c1), (.long c0), (.long c2)] _ := Arv.set Ar31 qq31 S31 M31 H31 G31 rfl W32 2 rfl (Nat.le_of_ble_eq_true rfl)
      have N32 := Fr.snoc X32 N10 g0
      have Z32 : n0 ≤ h32.size := Nat.le_trans Z10 (Nat.le_of_eq W32.size.symm)
      have Kp32 := Kp10.wr W32 (Or.inl (List.mem_of_getElem? (i := 0) rfl))
      obtain ⟨cl33, Ar33, qq33, S33, M33, H33, G33⟩ := id V32
      obtain ⟨fs, hr, hrun, hended, hW, hsame⟩ := X32.leave (v := none) (fun _ => rfl)
      refine ⟨_, _, ?_, hrun, hended, _, _, rfl, ?_, ⟨_, rfl⟩, hW, hsame.mono (by decide) (by decide)⟩
      · show Steps p.tables e below (T10.setTop (mkF m 47 #[.val (.ref u0), .val (.int (2 : Int32)), .val (.long c2), .second, .val (.int (1 : Int32))] [])) _
        refine XS.aloadN X10.here hx rfl (hb hby d3_47) rfl rfl ?_
        show Steps p.tables e below (T10.setTop (mkF m 48 #[.val (.ref u0), .val (.int (2 : Int32)), .val (.long c2), .second, .val (.int (1 : Int32))] [(.ref u0)])) _
        refine XS.iload X10.here hx rfl (hb hby d3_48) rfl ?_
        show Steps p.tables e below (T10.setTop (mkF m 50 #[.val (.ref u0), .val (.int (2 : Int32)), .val (.long c2), .second, .val (.int (1 : Int32))] [(.int (1 : Int32)), (.ref u0)])) _
        refine XS.iconst X10.here hx rfl (hb hby d3_50) ?_
        show Steps p.tables e below (T10.setTop (mkF m 51 #[.val (.ref u0), .val (.int (2 : Int32)), .val (.long c2), .second, .val (.int (1 : Int32))] [(.int (1 : Int32)), (.int (1 : Int32)), (.ref u0)])) _
        refine XS.iadd X10.here hx rfl (hb hby d3_51) rfl ?_
        rw [show ((1 : Int32) + (1 : Int32)) = (2 : Int32) from by decide]
        show Steps p.tables e below (T10.setTop (mkF m 52 #[.val (.ref u0), .val (.int (2 : Int32)), .val (.long c2), .second, .val (.int (1 : Int32))] [(.int (2 : Int32)), (.ref u0)])) _
        refine XS.lloadN X10.here hx rfl (hb hby d3_52) rfl ?_
        show Steps p.tables e below (T10.setTop (mkF m 53 #[.val (.ref u0), .val (.int (2 : Int32)), .val (.long c2), .second, .val (.int (1 : Int32))] [(.long c2), (.int (2 : Int32)), (.ref u0)])) _
        refine st32 _ ?_
        show Steps p.tables e below (T32.setTop (mkF m 54 #[.val (.ref u0), .val (.int (2 : Int32)), .val (.long c2), .second, .val (.int (1 : Int32))] [])) _
        refine XS.iinc X32.here hx rfl (hb hby d3_54) rfl (l' := #[.val (.ref u0), .val (.int ((2 : Int32) + (1 : Int32))), .val (.long c2), .second, .val (.int (1 : Int32))]) rfl ?_
        rw [show ((2 : Int32) + (1 : Int32)) = (3 : Int32) from by decide]
        show Steps p.tables e below (T32.setTop (mkF m 57 #[.val (.ref u0), .val (.int (3 : Int32)), .val (.long c2), .second, .val (.int (1 : Int32))] [])) _
        refine XS.goto X32.here hx rfl (pc0 := 57) (pc' := 2) rfl (hb hby d3_57) (by decide) (by decide) ?_
        show Steps p.tables e below (T32.setTop (mkF m 2 #[.val (.ref u0), .val (.int (3 : Int32)), .val (.long c2), .second, .val (.int (1 : Int32))] [])) _
        refine XS.iloadN X32.here hx rfl (hb hby d3_2) rfl ?_
        show Steps p.tables e below (T32.setTop (mkF m 3 #[.val (.ref u0), .val (.int (3 : Int32)), .val (.long c2), .second, .val (.int (1 : Int32))] [(.int (3 : Int32))])) _
        refine XS.aloadN X32.here hx rfl (hb hby d3_3) rfl rfl ?_
        show Steps p.tables e below (T32.setTop (mkF m 4 #[.val (.ref u0), .val (.int (3 : Int32)), .val (.long c2), .second, .val (.int (1 : Int32))] [(.ref u0), (.int (3 : Int32))])) _
        refine X32.arraylength hx (by rw [e32]; exact Ar33.1) (State.isArrayOf_alike hZ.alike Ar33.2.1) (g := (mkF m 4 #[.val (.ref u0), .val (.int (3 : Int32)), .val (.long c2), .second, .val (.int (1 : Int32))] [(.ref u0), (.int (3 : Int32))])) rfl rfl (hb hby d3_4) _ ?_
        rw [len_of S33 M33]
        show Steps p.tables e below (T32.setTop (mkF m 5 #[.val (.ref u0), .val (.int (3 : Int32)), .val (.long c2), .second, .val (.int (1 : Int32))] [(.int (3 : Int32)), (.int (3 : Int32))])) _
        refine XS.icmpYes X32.here hx rfl (pc0 := 5) (pc' := 60) rfl (hb hby d3_5) rfl (flt (by decide : ¬ ((3 : Int32) < (3 : Int32)))).2.1 (by decide) (by decide) ?_
        show Steps p.tables e below (T32.setTop (mkF m 60 #[.val (.ref u0), .val (.int (3 : Int32)), .val (.long c2), .second, .val (.int (1 : Int32))] [])) _
        exact X32.returnOut hx Bd.returns (hb hby d3_60) hr
      · show Q3n3 Z u0 kA dv c0 c1 c2 h0 n0 _ T32.heap _
        rw [e32]
        have k0 := Int64.lt_iff_toInt_lt.mp hc28_5
        have k1 := mt Int64.lt_iff_toInt_lt.mpr hc28_15
        have r0 : (own_X (own_X c0 c1) c2) = c1 := by
          apply Int64.toInt_inj.mp
          simp only [own_xi, own_ni]
          omega
        have r1 : (own_X (own_N c0 c1) (own_N (own_X c0 c1) c2)) = c0 := by
          apply Int64.toInt_inj.mp
          simp only [own_xi, own_ni]
          omega
        have r2 : (own_N (own_N c0 c1) (own_N (own_X c0 c1) c2)) = c2 := by
          apply Int64.toInt_inj.mp
          simp only [own_xi, own_ni]
          omega
        refine ⟨rfl, N32, Kp32, ?_⟩
        rw [r0, r1, r2]
        exact V32
  · have K : ∀ target, Steps p.tables e below (s₁.setTop (mkF m 47 #[.val (.ref u0), .val (.int (1 : Int32)), .val (.long c1), .second, .val (.int (0 : Int32))] [])) target → Steps p.tables e below (s₁.setTop (mkF m 28 #[.val (.ref u0), .val (.int (1 : Int32)), .val (.long c1), .second, .val (.int (0 : Int32))] [(.int (lcmpW c0 c1))])) target := by
      intro target kt
      refine XS.ifYes X0.here hx rfl (pc0 := 28) (pc' := 47) rfl (hb hby d3_28) rfl ((if0 _ _).trans (flt (fun q => hc28_5 ((lw_lt c0 c1).mp q))).2.1) (by decide) (by decide) ?_
      exact kt
    refine Done.of ?_ K
    obtain ⟨cl34, Ar34, qq34, S34, M34, H34, G34⟩ := id V0
    have hin34 : ¬ ((1 : Int32) < 0 ∨ cl34.slots.size ≤ ((1 : Int32)).toNatClampNeg) := inb_of S34 ⟨by decide, by decide⟩
    obtain ⟨T35, h35, X35, e35, W35, st35⟩ := stJ X0 hx hZ e0 Ar34 (j := (1 : Int32)) hin34 (g := (mkF m 53 #[.val (.ref u0), .val (.int (1 : Int32)), .val (.long c1), .second, .val (.int (0 : Int32))] [(.long c1), (.int (1 : Int32)), (.ref u0)])) rfl rfl (hb hby d3_53)
    have V35 : Arv Z h35 u0 kA .long (3 : Int32) [(.long c0), (.long c1), (.long c2)] _ := Arv.set Ar34 qq34 S34 M34 H34 G34 rfl W35 1 rfl (Nat.le_of_ble_eq_true rfl)
    have N35 := Fr.snoc X35 N0 g0
    have Z35 : n0 ≤ h35.size := Nat.le_trans Z0 (Nat.le_of_eq W35.size.symm)
    have Kp35 := (Keep.refl h0 [u0]).wr W35 (Or.inl (List.mem_of_getElem? (i := 0) rfl))
    obtain ⟨cl36, Ar36, qq36, S36, M36, H36, G36⟩ := id V35
    obtain ⟨cl37, Ar37, qq37, S37, M37, H37, G37⟩ := id V35
    have hin37 : ¬ ((2 : Int32) < 0 ∨ cl37.slots.size ≤ ((2 : Int32)).toNatClampNeg) := inb_of S37 ⟨by decide, by decide⟩
    have hat37 : cl37.slots[((2 : Int32)).toNatClampNeg]? = some (.long c2) := H37 2 (by rw [S37]; decide)
    obtain ⟨cl38, Ar38, qq38, S38, M38, H38, G38⟩ := id V35
    have hin38 : ¬ ((1 : Int32) < 0 ∨ cl38.slots.size ≤ ((1 : Int32)).toNatClampNeg) := inb_of S38 ⟨by decide, by decide⟩
    have hat38 : cl38.slots[((1 : Int32)).toNatClampNeg]? = some (.long c1) := H38 1 (by rw [S38]; decide)
    have K39 : ∀ target, Steps p.tables e below (T35.setTop (mkF m 28 #[.val (.ref u0), .val (.int (2 : Int32)), .val (.long c2), .second, .val (.int (1 : Int32))] [(.int (lcmpW c1 c2))])) target → Steps p.tables e below (s₁.setTop (mkF m 47 #[.val (.ref u0), .val (.int (1 : Int32)), .val (.long c1), .second, .val (.int (0 : Int32))] [])) target := by
      intro target kt
      show Steps p.tables e below (s₁.setTop (mkF m 47 #[.val (.ref u0), .val (.int (1 : Int32)), .val (.long c1), .second, .val (.int (0 : Int32))] [])) _
      refine XS.aloadN X0.here hx rfl (hb hby d3_47) rfl rfl ?_
      show Steps p.tables e below (s₁.setTop (mkF m 48 #[.val (.ref u0), .val (.int (1 : Int32)), .val (.long c1), .second, .val (.int (0 : Int32))] [(.ref u0)])) _
      refine XS.iload X0.here hx rfl (hb hby d3_48) rfl ?_
      show Steps p.tables e below (s₁.setTop (mkF m 50 #[.val (.ref u0), .val (.int (1 : Int32)), .val (.long c1), .second, .val (.int (0 : Int32))] [(.int (0 : Int32)), (.ref u0)])) _
      refine XS.iconst X0.here hx rfl (hb hby d3_50) ?_
      show Steps p.tables e below (s₁.setTop (mkF m 51 #[.val (.ref u0), .val (.int (1 : Int32)), .val (.long c1), .second, .val (.int (0 : Int32))] [(.int (1 : Int32)), (.int (0 : Int32)), (.ref u0)])) _
      refine XS.iadd X0.here hx rfl (hb hby d3_51) rfl ?_
      rw [show ((0 : Int32) + (1 : Int32)) = (1 : Int32) from by decide]
      show Steps p.tables e below (s₁.setTop (mkF m 52 #[.val (.ref u0), .val (.int (1 : Int32)), .val (.long c1), .second, .val (.int (0 : Int32))] [(.int (1 : Int32)), (.ref u0)])) _
      refine XS.lloadN X0.here hx rfl (hb hby d3_52) rfl ?_
      show Steps p.tables e below (s₁.setTop (mkF m 53 #[.val (.ref u0), .val (.int (1 : Int32)), .val (.long c1), .second, .val (.int (0 : Int32))] [(.long c1), (.int (1 : Int32)), (.ref u0)])) _
      refine st35 _ ?_
      show Steps p.tables e below (T35.setTop (mkF m 54 #[.val (.ref u0), .val (.int (1 : Int32)), .val (.long c1), .second, .val (.int (0 : Int32))] [])) _
      refine XS.iinc X35.here hx rfl (hb hby d3_54) rfl (l' := #[.val (.ref u0), .val (.int ((1 : Int32) + (1 : Int32))), .val (.long c1), .second, .val (.int (0 : Int32))]) rfl ?_
      rw [show ((1 : Int32) + (1 : Int32)) = (2 : Int32) from by decide]
      show Steps p.tables e below (T35.setTop (mkF m 57 #[.val (.ref u0), .val (.int (2 : Int32)), .val (.long c1), .second, .val (.int (0 : Int32))] [])) _
      refine XS.goto X35.here hx rfl (pc0 := 57) (pc' := 2) rfl (hb hby d3_57) (by decide) (by decide) ?_
      show Steps p.tables e below (T35.setTop (mkF m 2 #[.val (.ref u0), .val (.int (2 : Int32)), .val (.long c1), .second, .val (.int (0 : Int32))] [])) _
      refine XS.iloadN X35.here hx rfl (hb hby d3_2) rfl ?_
      show Steps p.tables e below (T35.setTop (mkF m 3 #[.val (.ref u0), .val (.int (2 : Int32)), .val (.long c1), .second, .val (.int (0 : Int32))] [(.int (2 : Int32))])) _
      refine XS.aloadN X35.here hx rfl (hb hby d3_3) rfl rfl ?_
      show Steps p.tables e below (T35.setTop (mkF m 4 #[.val (.ref u0), .val (.int (2 : Int32)), .val (.long c1), .second, .val (.int (0 : Int32))] [(.ref u0), (.int (2 : Int32))])) _
      refine X35.arraylength hx (by rw [e35]; exact Ar36.1) (State.isArrayOf_alike hZ.alike Ar36.2.1) (g := (mkF m 4 #[.val (.ref u0), .val (.int (2 : Int32)), .val (.long c1), .second, .val (.int (0 : Int32))] [(.ref u0), (.int (2 : Int32))])) rfl rfl (hb hby d3_4) _ ?_
      rw [len_of S36 M36]
      show Steps p.tables e below (T35.setTop (mkF m 5 #[.val (.ref u0), .val (.int (2 : Int32)), .val (.long c1), .second, .val (.int (0 : Int32))] [(.int (3 : Int32)), (.int (2 : Int32))])) _
      refine XS.icmpNo X35.here hx rfl (hb hby d3_5) rfl (tlt (by decide : (2 : Int32) < (3 : Int32))).2.1 ?_
      show Steps p.tables e below (T35.setTop (mkF m 8 #[.val (.ref u0), .val (.int (2 : Int32)), .val (.long c1), .second, .val (.int (0 : Int32))] [])) _
      refine XS.aloadN X35.here hx rfl (hb hby d3_8) rfl rfl ?_
      show Steps p.tables e below (T35.setTop (mkF m 9 #[.val (.ref u0), .val (.int (2 : Int32)), .val (.long c1), .second, .val (.int (0 : Int32))] [(.ref u0)])) _
      refine XS.iloadN X35.here hx rfl (hb hby d3_9) rfl ?_
      show Steps p.tables e below (T35.setTop (mkF m 10 #[.val (.ref u0), .val (.int (2 : Int32)), .val (.long c1), .second, .val (.int (0 : Int32))] [(.int (2 : Int32)), (.ref u0)])) _
      refine X35.laload hx (j := (2 : Int32)) (v := (.long c2)) (by rw [e35]; exact Ar37.1) (State.isArrayOf_alike hZ.alike Ar37.2.1) Ar37.2.2 hin37 hat37 (g := (mkF m 10 #[.val (.ref u0), .val (.int (2 : Int32)), .val (.long c1), .second, .val (.int (0 : Int32))] [(.int (2 : Int32)), (.ref u0)])) rfl rfl (hb hby d3_10) _ ?_
      show Steps p.tables e below (T35.setTop (mkF m 11 #[.val (.ref u0), .val (.int (2 : Int32)), .val (.long c1), .second, .val (.int (0 : Int32))] [(.long c2)])) _
      refine XS.lstoreN X35.here hx rfl (hb hby d3_11) rfl (l' := #[.val (.ref u0), .val (.int (2 : Int32)), .val (.long c2), .second, .val (.int (0 : Int32))]) rfl ?_
      show Steps p.tables e below (T35.setTop (mkF m 12 #[.val (.ref u0), .val (.int (2 : Int32)), .val (.long c2), .second, .val (.int (0 : Int32))] [])) _
      refine XS.iloadN X35.here hx rfl (hb hby d3_12) rfl ?_
      show Steps p.tables e below (T35.setTop (mkF m 13 #[.val (.ref u0), .val (.int (2 : Int32)), .val (.long c2), .second, .val (.int (0 : Int32))] [(.int (2 : Int32))])) _
      refine XS.iconst X35.here hx rfl (hb hby d3_13) ?_
      show Steps p.tables e below (T35.setTop (mkF m 14 #[.val (.ref u0), .val (.int (2 : Int32)), .val (.long c2), .second, .val (.int (0 : Int32))] [(.int (1 : Int32)), (.int (2 : Int32))])) _
      refine XS.isub X35.here hx rfl (hb hby d3_14) rfl ?_
      rw [show ((2 : Int32) - (1 : Int32)) = (1 : Int32) from by decide]
      show Steps p.tables e below (T35.setTop (mkF m 15 #[.val (.ref u0), .val (.int (2 : Int32)), .val (.long c2), .second, .val (.int (0 : Int32))] [(.int (1 : Int32))])) _
      refine XS.istore X35.here hx rfl (hb hby d3_15) rfl (l' := #[.val (.ref u0), .val (.int (2 : Int32)), .val (.long c2), .second, .val (.int (1 : Int32))]) rfl ?_
      show Steps p.tables e below (T35.setTop (mkF m 17 #[.val (.ref u0), .val (.int (2 : Int32)), .val (.long c2), .second, .val (.int (1 : Int32))] [])) _
      refine XS.iload X35.here hx rfl (hb hby d3_17) rfl ?_
      show Steps p.tables e below (T35.setTop (mkF m 19 #[.val (.ref u0), .val (.int (2 : Int32)), .val (.long c2), .second, .val (.int (1 : Int32))] [(.int (1 : Int32))])) _
      refine XS.ifNo X35.here hx rfl (hb hby d3_19) rfl ((if0 _ _).trans (flt (by decide : ¬ ((1 : Int32) < (0 : Int32)))).1) ?_
      show Steps p.tables e below (T35.setTop (mkF m 22 #[.val (.ref u0), .val (.int (2 : Int32)), .val (.long c2), .second, .val (.int (1 : Int32))] [])) _
      refine XS.aloadN X35.here hx rfl (hb hby d3_22) rfl rfl ?_
      show Steps p.tables e below (T35.setTop (mkF m 23 #[.val (.ref u0), .val (.int (2 : Int32)), .val (.long c2), .second, .val (.int (1 : Int32))] [(.ref u0)])) _
      refine XS.iload X35.here hx rfl (hb hby d3_23) rfl ?_
      show Steps p.tables e below (T35.setTop (mkF m 25 #[.val (.ref u0), .val (.int (2 : Int32)), .val (.long c2), .second, .val (.int (1 : Int32))] [(.int (1 : Int32)), (.ref u0)])) _
      refine X35.laload hx (j := (1 : Int32)) (v := (.long c1)) (by rw [e35]; exact Ar38.1) (State.isArrayOf_alike hZ.alike Ar38.2.1) Ar38.2.2 hin38 hat38 (g := (mkF m 25 #[.val (.ref u0), .val (.int (2 : Int32)), .val (.long c2), .second, .val (.int (1 : Int32))] [(.int (1 : Int32)), (.ref u0)])) rfl rfl (hb hby d3_25) _ ?_
      show Steps p.tables e below (T35.setTop (mkF m 26 #[.val (.ref u0), .val (.int (2 : Int32)), .val (.long c2), .second, .val (.int (1 : Int32))] [(.long c1)])) _
      refine XS.lloadN X35.here hx rfl (hb hby d3_26) rfl ?_
      show Steps p.tables e below (T35.setTop (mkF m 27 #[.val (.ref u0), .val (.int (2 : Int32)), .val (.long c2), .second, .val (.int (1 : Int32))] [(.long c2), (.long c1)])) _
      refine XS.lcmp X35.here hx rfl (hb hby d3_27) rfl ?_
      exact kt
    refine Done.of ?_ K39
    by_cases hc28_40 : c1 < c2
    · have K : ∀ target, Steps p.tables e below (T35.setTop (mkF m 31 #[.val (.ref u0), .val (.int (2 : Int32)), .val (.long c2), .second, .val (.int (1 : Int32))] [])) target → Steps p.tables e below (T35.setTop (mkF m 28 #[.val (.ref u0), .val (.int (2 : Int32)), .val (.long c2), .second, .val (.int (1 : Int32))] [(.int (lcmpW c1 c2))])) target := by
        intro target kt
        refine XS.ifNo X35.here hx rfl (hb hby d3_28) rfl ((if0 _ _).trans (tlt ((lw_lt c1 c2).mpr hc28_40)).2.1) ?_
        exact kt
      refine Done.of ?_ K
      obtain ⟨cl41, Ar41, qq41, S41, M41, H41, G41⟩ := id V35
      have hin41 : ¬ ((1 : Int32) < 0 ∨ cl41.slots.size ≤ ((1 : Int32)).toNatClampNeg) := inb_of S41 ⟨by decide, by decide⟩
      have hat41 : cl41.slots[((1 : Int32)).toNatClampNeg]? = some (.long c1) := H41 1 (by rw [S41]; decide)
      obtain ⟨cl42, Ar42, qq42, S42, M42, H42, G42⟩ := id V35
      have hin42 : ¬ ((2 : Int32) < 0 ∨ cl42.slots.size ≤ ((2 : Int32)).toNatClampNeg) := inb_of S42 ⟨by decide, by decide⟩
      obtain ⟨T43, h43, X43, e43, W43, st43⟩ := stJ X35 hx hZ e35 Ar42 (j := (2 : Int32)) hin42 (g := (mkF m 40 #[.val (.ref u0), .val (.int (2 : Int32)), .val (.long c2), .second, .val (.int (1 : Int32))] [(.long c1), (.int (2 : Int32)), (.ref u0)])) rfl rfl (hb hby d3_40)
      have V43 : Arv Z h43 u0 kA .long (3 : Int32) [(.long c0), (.long c1), (.long c1)] _ := Arv.set Ar42 qq42 S42 M42 H42 G42 rfl W43 2 rfl (Nat.le_of_ble_eq_true rfl)
      have N43 := Fr.snoc X43 N35 g0
      have Z43 : n0 ≤ h43.size := Nat.le_trans Z35 (Nat.le_of_eq W43.size.symm)
      have Kp43 := Kp35.wr W43 (Or.inl (List.mem_of_getElem? (i := 0) rfl))
      obtain ⟨cl44, Ar44, qq44, S44, M44, H44, G44⟩ := id V43
      have hin44 : ¬ ((0 : Int32) < 0 ∨ cl44.slots.size ≤ ((0 : Int32)).toNatClampNeg) := inb_of S44 ⟨by decide, by decide⟩
      have hat44 : cl44.slots[((0 : Int32)).toNatClampNeg]? = some (.long c0) := H44 0 (by rw [S44]; decide)
      have K45 : ∀ target, Steps p.tables e below (T43.setTop (mkF m 28 #[.val (.ref u0), .val (.int (2 : Int32)), .val (.long c2), .second, .val (.int (0 : Int32))] [(.int (lcmpW c0 c2))])) target → Steps p.tables e below (T35.setTop (mkF m 31 #[.val (.ref u0), .val (.int (2 : Int32)), .val (.long c2), .second, .val (.int (1 : Int32))] [])) target := by
        intro target kt
        show Steps p.tables e below (T35.setTop (mkF m 31 #[.val (.ref u0), .val (.int (2 : Int32)), .val (.long c2), .second, .val (.int (1 : Int32))] [])) _
        refine XS.aloadN X35.here hx rfl (hb hby d3_31) rfl rfl ?_
        show Steps p.tables e below (T35.setTop (mkF m 32 #[.val (.ref u0), .val (.int (2 : Int32)), .val (.long c2), .second, .val (.int (1 : Int32))] [(.ref u0)])) _
        refine XS.iload X35.here hx rfl (hb hby d3_32) rfl ?_
        show Steps p.tables e below (T35.setTop (mkF m 34 #[.val (.ref u0), .val (.int (2 : Int32)), .val (.long c2), .second, .val (.int (1 : Int32))] [(.int (1 : Int32)), (.ref u0)])) _
        refine XS.iconst X35.here hx rfl (hb hby d3_34) ?_
        show Steps p.tables e below (T35.setTop (mkF m 35 #[.val (.ref u0), .val (.int (2 : Int32)), .val (.long c2), .second, .val (.int (1 : Int32))] [(.int (1 : Int32)), (.int (1 : Int32)), (.ref u0)])) _
        refine XS.iadd X35.here hx rfl (hb hby d3_35) rfl ?_
        rw [show ((1 : Int32) + (1 : Int32)) = (2 : Int32) from by decide]
        show Steps p.tables e below (T35.setTop (mkF m 36 #[.val (.ref u0), .val (.int (2 : Int32)), .val (.long c2), .second, .val (.int (1 : Int32))] [(.int (2 : Int32)), (.ref u0)])) _
        refine XS.aloadN X35.here hx rfl (hb hby d3_36) rfl rfl ?_
        show Steps p.tables e below (T35.setTop (mkF m 37 #[.val (.ref u0), .val (.int (2 : Int32)), .val (.long c2), .second, .val (.int (1 : Int32))] [(.ref u0), (.int (2 : Int32)), (.ref u0)])) _
        refine XS.iload X35.here hx rfl (hb hby d3_37) rfl ?_
        show Steps p.tables e below (T35.setTop (mkF m 39 #[.val (.ref u0), .val (.int (2 : Int32)), .val (.long c2), .second, .val (.int (1 : Int32))] [(.int (1 : Int32)), (.ref u0), (.int (2 : Int32)), (.ref u0)])) _
        refine X35.laload hx (j := (1 : Int32)) (v := (.long c1)) (by rw [e35]; exact Ar41.1) (State.isArrayOf_alike hZ.alike Ar41.2.1) Ar41.2.2 hin41 hat41 (g := (mkF m 39 #[.val (.ref u0), .val (.int (2 : Int32)), .val (.long c2), .second, .val (.int (1 : Int32))] [(.int (1 : Int32)), (.ref u0), (.int (2 : Int32)), (.ref u0)])) rfl rfl (hb hby d3_39) _ ?_
        show Steps p.tables e below (T35.setTop (mkF m 40 #[.val (.ref u0), .val (.int (2 : Int32)), .val (.long c2), .second, .val (.int (1 : Int32))] [(.long c1), (.int (2 : Int32)), (.ref u0)])) _
        refine st43 _ ?_
        show Steps p.tables e below (T43.setTop (mkF m 41 #[.val (.ref u0), .val (.int (2 : Int32)), .val (.long c2), .second, .val (.int (1 : Int32))] [])) _
        refine XS.iinc X43.here hx rfl (hb hby d3_41) rfl (l' := #[.val (.ref u0), .val (.int (2 : Int32)), .val (.long c2), .second, .val (.int ((1 : Int32) + (-1 : Int32)))]) rfl ?_
        rw [show ((1 : Int32) + (-1 : Int32)) = (0 : Int32) from by decide]
        show Steps p.tables e below (T43.setTop (mkF m 44 #[.val (.ref u0), .val (.int (2 : Int32)), .val (.long c2), .second, .val (.int (0 : Int32))] [])) _
        refine XS.goto X43.here hx rfl (pc0 := 44) (pc' := 17) rfl (hb hby d3_44) (by decide) (by decide) ?_
        show Steps p.tables e below (T43.setTop (mkF m 17 #[.val (.ref u0), .val (.int (2 : Int32)), .val (.long c2), .second, .val (.int (0 : Int32))] [])) _
        refine XS.iload X43.here hx rfl (hb hby d3_17) rfl ?_
        show Steps p.tables e below (T43.setTop (mkF m 19 #[.val (.ref u0), .val (.int (2 : Int32)), .val (.long c2), .second, .val (.int (0 : Int32))] [(.int (0 : Int32))])) _
        refine XS.ifNo X43.here hx rfl (hb hby d3_19) rfl ((if0 _ _).trans (flt (by decide : ¬ ((0 : Int32) < (0 : Int32)))).1) ?_
        show Steps p.tables e below (T43.setTop (mkF m 22 #[.val (.ref u0), .val (.int (2 : Int32)), .val (.long c2), .second, .val (.int (0 : Int32))] [])) _
        refine XS.aloadN X43.here hx rfl (hb hby d3_22) rfl rfl ?_
        show Steps p.tables e below (T43.setTop (mkF m 23 #[.val (.ref u0), .val (.int (2 : Int32)), .val (.long c2), .second, .val (.int (0 : Int32))] [(.ref u0)])) _
        refine XS.iload X43.here hx rfl (hb hby d3_23) rfl ?_
        show Steps p.tables e below (T43.setTop (mkF m 25 #[.val (.ref u0), .val (.int (2 : Int32)), .val (.long c2), .second, .val (.int (0 : Int32))] [(.int (0 : Int32)), (.ref u0)])) _
        refine X43.laload hx (j := (0 : Int32)) (v := (.long c0)) (by rw [e43]; exact Ar44.1) (State.isArrayOf_alike hZ.alike Ar44.2.1) Ar44.2.2 hin44 hat44 (g := (mkF m 25 #[.val (.ref u0), .val (.int (2 : Int32)), .val (.long c2), .second, .val (.int (0 : Int32))] [(.int (0 : Int32)), (.ref u0)])) rfl rfl (hb hby d3_25) _ ?_
        show Steps p.tables e below (T43.setTop (mkF m 26 #[.val (.ref u0), .val (.int (2 : Int32)), .val (.long c2), .second, .val (.int (0 : Int32))] [(.long c0)])) _
        refine XS.lloadN X43.here hx rfl (hb hby d3_26) rfl ?_
        show Steps p.tables e below (T43.setTop (mkF m 27 #[.val (.ref u0), .val (.int (2 : Int32)), .val (.long c2), .second, .val (.int (0 : Int32))] [(.long c2), (.long c0)])) _
        refine XS.lcmp X43.here hx rfl (hb hby d3_27) rfl ?_
        exact kt
      refine Done.of ?_ K45
      by_cases hc28_46 : c0 < c2
      · have K : ∀ target, Steps p.tables e below (T43.setTop (mkF m 31 #[.val (.ref u0), .val (.int (2 : Int32)), .val (.long c2), .second, .val (.int (0 : Int32))] [])) target → Steps p.tables e below (T43.setTop (mkF m 28 #[.val (.ref u0), .val (.int (2 : Int32)), .val (.long c2), .second, .val (.int (0 : Int32))] [(.int (lcmpW c0 c2))])) target := by
          intro target kt
          refine XS.ifNo X43.here hx rfl (hb hby d3_28) rfl ((if0 _ _).trans (tlt ((lw_lt c0 c2).mpr hc28_46)).2.1) ?_
          exact kt
        refine Done.of ?_ K
        obtain ⟨cl47, Ar47, qq47, S47, M47, H47, G47⟩ := id V43
        have hin47 : ¬ ((0 : Int32) < 0 ∨ cl47.slots.size ≤ ((0 : Int32)).toNatClampNeg) := inb_of S47 ⟨by decide, by decide⟩
        have hat47 : cl47.slots[((0 : Int32)).toNatClampNeg]? = some (.long c0) := H47 0 (by rw [S47]; decide)
        obtain ⟨cl48, Ar48, qq48, S48, M48, H48, G48⟩ := id V43
        have hin48 : ¬ ((1 : Int32) < 0 ∨ cl48.slots.size ≤ ((1 : Int32)).toNatClampNeg) := inb_of S48 ⟨by decide, by decide⟩
        obtain ⟨T49, h49, X49, e49, W49, st49⟩ := stJ X43 hx hZ e43 Ar48 (j := (1 : Int32)) hin48 (g := (mkF m 40 #[.val (.ref u0), .val (.int (2 : Int32)), .val (.long c2), .second, .val (.int (0 : Int32))] [(.long c0), (.int (1 : Int32)), (.ref u0)])) rfl rfl (hb hby d3_40)
        have V49 : Arv Z h49 u0 kA .long (3 : Int32) [(.long c0), (.long c0), (.long c1)] _ := Arv.set Ar48 qq48 S48 M48 H48 G48 rfl W49 1 rfl (Nat.le_of_ble_eq_true rfl)
        have N49 := Fr.snoc X49 N43 g0
        have Z49 : n0 ≤ h49.size := Nat.le_trans Z43 (Nat.le_of_eq W49.size.symm)
        have Kp49 := Kp43.wr W49 (Or.inl (List.mem_of_getElem? (i := 0) rfl))
        obtain ⟨cl50, Ar50, qq50, S50, M50, H50, G50⟩ := id V49
        have hin50 : ¬ ((0 : Int32) < 0 ∨ cl50.slots.size ≤ ((0 : Int32)).toNatClampNeg) := inb_of S50 ⟨by decide, by decide⟩
        obtain ⟨T51, h51, X51, e51, W51, st51⟩ := stJ X49 hx hZ e49 Ar50 (j := (0 : Int32)) hin50 (g := (mkF m 53 #[.val (.ref u0), .val (.int (2 : Int32)), .val (.long c2), .second, .val (.int (-1 : Int32))] [(.long c2), (.int (0 : Int32)), (.ref u0)])) rfl rfl (hb hby d3_53)
        have V51 : Arv Z h51 u0 kA .long (3 : Int32) [(.long c2), (.long c0), (.long c1)] _ := Arv.set Ar50 qq50 S50 M50 H50 G50 rfl W51 0 rfl (Nat.le_of_ble_eq_true rfl)
        have N51 := Fr.snoc X51 N49 g0
        have Z51 : n0 ≤ h51.size := Nat.le_trans Z49 (Nat.le_of_eq W51.size.symm)
        have Kp51 := Kp49.wr W51 (Or.inl (List.mem_of_getElem? (i := 0) rfl))
        obtain ⟨cl52, Ar52, qq52, S52, M52, H52, G52⟩ := id V51
        obtain ⟨fs, hr, hrun, hended, hW, hsame⟩ := X51.leave (v := none) (fun _ => rfl)
        refine ⟨_, _, ?_, hrun, hended, _, _, rfl, ?_, ⟨_, rfl⟩, hW, hsame.mono (by decide) (by decide)⟩
        · show Steps p.tables e below (T43.setTop (mkF m 31 #[.val (.ref u0), .val (.int (2 : Int32)), .val (.long c2), .second, .val (.int (0 : Int32))] [])) _
          refine XS.aloadN X43.here hx rfl (hb hby d3_31) rfl rfl ?_
          show Steps p.tables e below (T43.setTop (mkF m 32 #[.val (.ref u0), .val (.int (2 : Int32)), .val (.long c2), .second, .val (.int (0 : Int32))] [(.ref u0)])) _
          refine XS.iload X43.here hx rfl (hb hby d3_32) rfl ?_
          show Steps p.tables e below (T43.setTop (mkF m 34 #[.val (.ref u0), .val (.int (2 : Int32)), .val (.long c2), .second, .val (.int (0 : Int32))] [(.int (0 : Int32)), (.ref u0)])) _
          refine XS.iconst X43.here hx rfl (hb hby d3_34) ?_
          show Steps p.tables e below (T43.setTop (mkF m 35 #[.val (.ref u0), .val (.int (2 : Int32)), .val (.long c2), .second, .val (.int (0 : Int32))] [(.int (1 : Int32)), (.int (0 : Int32)), (.ref u0)])) _
          refine XS.iadd X43.here hx rfl (hb hby d3_35) rfl ?_
          rw [show ((0 : Int32) + (1 : Int32)) = (1 : Int32) from by decide]
          show Steps p.tables e below (T43.setTop (mkF m 36 #[.val (.ref u0), .val (.int (2 : Int32)), .val (.long c2), .second, .val (.int (0 : Int32))] [(.int (1 : Int32)), (.ref u0)])) _
          refine XS.aloadN X43.here hx rfl (hb hby d3_36) rfl rfl ?_
          show Steps p.tables e below (T43.setTop (mkF m 37 #[.val (.ref u0), .val (.int (2 : Int32)), .val (.long c2), .second, .val (.int (0 : Int32))] [(.ref u0), (.int (1 : Int32)), (.ref u0)])) _
          refine XS.iload X43.here hx rfl (hb hby d3_37) rfl ?_
          show Steps p.tables e below (T43.setTop (mkF m 39 #[.val (.ref u0), .val (.int (2 : Int32)), .val (.long c2), .second, .val (.int (0 : Int32))] [(.int (0 : Int32)), (.ref u0), (.int (1 : Int32)), (.ref u0)])) _
          refine X43.laload hx (j := (0 : Int32)) (v := (.long c0)) (by rw [e43]; exact Ar47.1) (State.isArrayOf_alike hZ.alike Ar47.2.1) Ar47.2.2 hin47 hat47 (g := (mkF m 39 #[.val (.ref u0), .val (.int (2 : Int32)), .val (.long c2), .second, .val (.int (0 : Int32))] [(.int (0 : Int32)), (.ref u0), (.int (1 : Int32)), (.ref u0)])) rfl rfl (hb hby d3_39) _ ?_
          show Steps p.tables e below (T43.setTop (mkF m 40 #[.val (.ref u0), .val (.int (2 : Int32)), .val (.long c2), .second, .val (.int (0 : Int32))] [(.long c0), (.int (1 : Int32)), (.ref u0)])) _
          refine st49 _ ?_
          show Steps p.tables e below (T49.setTop (mkF m 41 #[.val (.ref u0), .val (.int (2 : Int32)), .val (.long c2), .second, .val (.int (0 : Int32))] [])) _
          refine XS.iinc X49.here hx rfl (hb hby d3_41) rfl (l' := #[.val (.ref u0), .val (.int (2 : Int32)), .val (.long c2), .second, .val (.int ((0 : Int32) + (-1 : Int32)))]) rfl ?_
          rw [show ((0 : Int32) + (-1 : Int32)) = (-1 : Int32) from by decide]
          show Steps p.tables e below (T49.setTop (mkF m 44 #[.val (.ref u0), .val (.int (2 : Int32)), .val (.long c2), .second, .val (.int (-1 : Int32))] [])) _
          refine XS.goto X49.here hx rfl (pc0 := 44) (pc' := 17) rfl (hb hby d3_44) (by decide) (by decide) ?_
          show Steps p.tables e below (T49.setTop (mkF m 17 #[.val (.ref u0), .val (.int (2 : Int32)), .val (.long c2), .second, .val (.int (-1 : Int32))] [])) _
          refine XS.iload X49.here hx rfl (hb hby d3_17) rfl ?_
          show Steps p.tables e below (T49.setTop (mkF m 19 #[.val (.ref u0), .val (.int (2 : Int32)), .val (.long c2), .second, .val (.int (-1 : Int32))] [(.int (-1 : Int32))])) _
          refine XS.ifYes X49.here hx rfl (pc0 := 19) (pc' := 47) rfl (hb hby d3_19) rfl ((if0 _ _).trans (tlt (by decide : (-1 : Int32) < (0 : Int32))).1) (by decide) (by decide) ?_
          show Steps p.tables e below (T49.setTop (mkF m 47 #[.val (.ref u0), .val (.int (2 : Int32)), .val (.long c2), .second, .val (.int (-1 : Int32))] [])) _
          refine XS.aloadN X49.here hx rfl (hb hby d3_47) rfl rfl ?_
          show Steps p.tables e below (T49.setTop (mkF m 48 #[.val (.ref u0), .val (.int (2 : Int32)), .val (.long c2), .second, .val (.int (-1 : Int32))] [(.ref u0)])) _
          refine XS.iload X49.here hx rfl (hb hby d3_48) rfl ?_
          show Steps p.tables e below (T49.setTop (mkF m 50 #[.val (.ref u0), .val (.int (2 : Int32)), .val (.long c2), .second, .val (.int (-1 : Int32))] [(.int (-1 : Int32)), (.ref u0)])) _
          refine XS.iconst X49.here hx rfl (hb hby d3_50) ?_
          show Steps p.tables e below (T49.setTop (mkF m 51 #[.val (.ref u0), .val (.int (2 : Int32)), .val (.long c2), .second, .val (.int (-1 : Int32))] [(.int (1 : Int32)), (.int (-1 : Int32)), (.ref u0)])) _
          refine XS.iadd X49.here hx rfl (hb hby d3_51) rfl ?_
          rw [show ((-1 : Int32) + (1 : Int32)) = (0 : Int32) from by decide]
          show Steps p.tables e below (T49.setTop (mkF m 52 #[.val (.ref u0), .val (.int (2 : Int32)), .val (.long c2), .second, .val (.int (-1 : Int32))] [(.int (0 : Int32)), (.ref u0)])) _
          refine XS.lloadN X49.here hx rfl (hb hby d3_52) rfl ?_
          show Steps p.tables e below (T49.setTop (mkF m 53 #[.val (.ref u0), .val (.int (2 : Int32)), .val (.long c2), .second, .val (.int (-1 : Int32))] [(.long c2), (.int (0 : Int32)), (.ref u0)])) _
          refine st51 _ ?_
          show Steps p.tables e below (T51.setTop (mkF m 54 #[.val (.ref u0), .val (.int (2 : Int32)), .val (.long c2), .second, .val (.int (-1 : Int32))] [])) _
          refine XS.iinc X51.here hx rfl (hb hby d3_54) rfl (l' := #[.val (.ref u0), .val (.int ((2 : Int32) + (1 : Int32))), .val (.long c2), .second, .val (.int (-1 : Int32))]) rfl ?_
          rw [show ((2 : Int32) + (1 : Int32)) = (3 : Int32) from by decide]
          show Steps p.tables e below (T51.setTop (mkF m 57 #[.val (.ref u0), .val (.int (3 : Int32)), .val (.long c2), .second, .val (.int (-1 : Int32))] [])) _
          refine XS.goto X51.here hx rfl (pc0 := 57) (pc' := 2) rfl (hb hby d3_57) (by decide) (by decide) ?_
          show Steps p.tables e below (T51.setTop (mkF m 2 #[.val (.ref u0), .val (.int (3 : Int32)), .val (.long c2), .second, .val (.int (-1 : Int32))] [])) _
          refine XS.iloadN X51.here hx rfl (hb hby d3_2) rfl ?_
          show Steps p.tables e below (T51.setTop (mkF m 3 #[.val (.ref u0), .val (.int (3 : Int32)), .val (.long c2), .second, .val (.int (-1 : Int32))] [(.int (3 : Int32))])) _
          refine XS.aloadN X51.here hx rfl (hb hby d3_3) rfl rfl ?_
          show Steps p.tables e below (T51.setTop (mkF m 4 #[.val (.ref u0), .val (.int (3 : Int32)), .val (.long c2), .second, .val (.int (-1 : Int32))] [(.ref u0), (.int (3 : Int32))])) _
          refine X51.arraylength hx (by rw [e51]; exact Ar52.1) (State.isArrayOf_alike hZ.alike Ar52.2.1) (g := (mkF m 4 #[.val (.ref u0), .val (.int (3 : Int32)), .val (.long c2), .second, .val (.int (-1 : Int32))] [(.ref u0), (.int (3 : Int32))])) rfl rfl (hb hby d3_4) _ ?_
          rw [len_of S52 M52]
          show Steps p.tables e below (T51.setTop (mkF m 5 #[.val (.ref u0), .val (.int (3 : Int32)), .val (.long c2), .second, .val (.int (-1 : Int32))] [(.int (3 : Int32)), (.int (3 : Int32))])) _
          refine XS.icmpYes X51.here hx rfl (pc0 := 5) (pc' := 60) rfl (hb hby d3_5) rfl (flt (by decide : ¬ ((3 : Int32) < (3 : Int32)))).2.1 (by decide) (by decide) ?_
          show Steps p.tables e below (T51.setTop (mkF m 60 #[.val (.ref u0), .val (.int (3 : Int32)), .val (.long c2), .second, .val (.int (-1 : Int32))] [])) _
          exact X51.returnOut hx Bd.returns (hb hby d3_60) hr
        · show Q3n3 Z u0 kA dv c0 c1 c2 h0 n0 _ T51.heap _
          rw [e51]
          have k0 := mt Int64.lt_iff_toInt_lt.mpr hc28_5
          have k1 := Int64.lt_iff_toInt_lt.mp hc28_40
          have k2 := Int64.lt_iff_toInt_lt.mp hc28_46
          have r0 : (own_X (own_X c0 c1) c2) = c2 := by
            apply Int64.toInt_inj.mp
            simp only [own_xi, own_ni]
            omega
          have r1 : (own_X (own_N c0 c1) (own_N (own_X c0 c1) c2)) = c0 := by
            apply Int64.toInt_inj.mp
            simp only [own_xi, own_ni]
            omega
          have r2 : (own_N (own_N c0 c1) (own_N (own_X c0 c1) c2)) = c1 := by
            apply Int64.toInt_inj.mp
            simp only [own_xi, own_ni]
            omega
          refine ⟨rfl, N51, Kp51, ?_⟩
          rw [r0, r1, r2]
          exact V51
      · have K : ∀ target, Steps p.tables e below (T43.setTop (mkF m 47 #[.val (.ref u0), .val (.int (2 : Int32)), .val (.long c2), .second, .val (.int (0 : Int32))] [])) target → Steps p.tables e below (T43.setTop (mkF m 28 #[.val (.ref u0), .val (.int (2 : Int32)), .val (.long c2), .second, .val (.int (0 : Int32))] [(.int (lcmpW c0 c2))])) target := by
          intro target kt
          refine XS.ifYes X43.here hx rfl (pc0 := 28) (pc' := 47) rfl (hb hby d3_28) rfl ((if0 _ _).trans (flt (fun q => hc28_46 ((lw_lt c0 c2).mp q))).2.1) (by decide) (by decide) ?_
          exact kt
        refine Done.of ?_ K
        obtain ⟨cl53, Ar53, qq53, S53, M53, H53, G53⟩ := id V43
        have hin53 : ¬ ((1 : Int32) < 0 ∨ cl53.slots.size ≤ ((1 : Int32)).toNatClampNeg) := inb_of S53 ⟨by decide, by decide⟩
        obtain ⟨T54, h54, X54, e54, W54, st54⟩ := stJ X43 hx hZ e43 Ar53 (j := (1 : Int32)) hin53 (g := (mkF m 53 #[.val (.ref u0), .val (.int (2 : Int32)), .val (.long c2), .second, .val (.int (0 : Int32))] [(.long c2), (.int (1 : Int32)), (.ref u0)])) rfl rfl (hb hby d3_53)
        have V54 : Arv Z h54 u0 kA .long (3 : Int32) [(.long c0), (.long c2), (.long c1)] _ := Arv.set Ar53 qq53 S53 M53 H53 G53 rfl W54 1 rfl (Nat.le_of_ble_eq_true rfl)
        have N54 := Fr.snoc X54 N43 g0
        have Z54 : n0 ≤ h54.size := Nat.le_trans Z43 (Nat.le_of_eq W54.size.symm)
        have Kp54 := Kp43.wr W54 (Or.inl (List.mem_of_getElem? (i := 0) rfl))
        obtain ⟨cl55, Ar55, qq55, S55, M55, H55, G55⟩ := id V54
        obtain ⟨fs, hr, hrun, hended, hW, hsame⟩ := X54.leave (v := none) (fun _ => rfl)
        refine ⟨_, _, ?_, hrun, hended, _, _, rfl, ?_, ⟨_, rfl⟩, hW, hsame.mono (by decide) (by decide)⟩
        · show Steps p.tables e below (T43.setTop (mkF m 47 #[.val (.ref u0), .val (.int (2 : Int32)), .val (.long c2), .second, .val (.int (0 : Int32))] [])) _
          refine XS.aloadN X43.here hx rfl (hb hby d3_47) rfl rfl ?_
          show Steps p.tables e below (T43.setTop (mkF m 48 #[.val (.ref u0), .val (.int (2 : Int32)), .val (.long c2), .second, .val (.int (0 : Int32))] [(.ref u0)])) _
          refine XS.iload X43.here hx rfl (hb hby d3_48) rfl ?_
          show Steps p.tables e below (T43.setTop (mkF m 50 #[.val (.ref u0), .val (.int (2 : Int32)), .val (.long c2), .second, .val (.int (0 : Int32))] [(.int (0 : Int32)), (.ref u0)])) _
          refine XS.iconst X43.here hx rfl (hb hby d3_50) ?_
          show Steps p.tables e below (T43.setTop (mkF m 51 #[.val (.ref u0), .val (.int (2 : Int32)), .val (.long c2), .second, .val (.int (0 : Int32))] [(.int (1 : Int32)), (.int (0 : Int32)), (.ref u0)])) _
          refine XS.iadd X43.here hx rfl (hb hby d3_51) rfl ?_
          rw [show ((0 : Int32) + (1 : Int32)) = (1 : Int32) from by decide]
          show Steps p.tables e below (T43.setTop (mkF m 52 #[.val (.ref u0), .val (.int (2 : Int32)), .val (.long c2), .second, .val (.int (0 : Int32))] [(.int (1 : Int32)), (.ref u0)])) _
          refine XS.lloadN X43.here hx rfl (hb hby d3_52) rfl ?_
          show Steps p.tables e below (T43.setTop (mkF m 53 #[.val (.ref u0), .val (.int (2 : Int32)), .val (.long c2), .second, .val (.int (0 : Int32))] [(.long c2), (.int (1 : Int32)), (.ref u0)])) _
          refine st54 _ ?_
          show Steps p.tables e below (T54.setTop (mkF m 54 #[.val (.ref u0), .val (.int (2 : Int32)), .val (.long c2), .second, .val (.int (0 : Int32))] [])) _
          refine XS.iinc X54.here hx rfl (hb hby d3_54) rfl (l' := #[.val (.ref u0), .val (.int ((2 : Int32) + (1 : Int32))), .val (.long c2), .second, .val (.int (0 : Int32))]) rfl ?_
          rw [show ((2 : Int32) + (1 : Int32)) = (3 : Int32) from by decide]
          show Steps p.tables e below (T54.setTop (mkF m 57 #[.val (.ref u0), .val (.int (3 : Int32)), .val (.long c2), .second, .val (.int (0 : Int32))] [])) _
          refine XS.goto X54.here hx rfl (pc0 := 57) (pc' := 2) rfl (hb hby d3_57) (by decide) (by decide) ?_
          show Steps p.tables e below (T54.setTop (mkF m 2 #[.val (.ref u0), .val (.int (3 : Int32)), .val (.long c2), .second, .val (.int (0 : Int32))] [])) _
          refine XS.iloadN X54.here hx rfl (hb hby d3_2) rfl ?_
          show Steps p.tables e below (T54.setTop (mkF m 3 #[.val (.ref u0), .val (.int (3 : Int32)), .val (.long c2), .second, .val (.int (0 : Int32))] [(.int (3 : Int32))])) _
          refine XS.aloadN X54.here hx rfl (hb hby d3_3) rfl rfl ?_
          show Steps p.tables e below (T54.setTop (mkF m 4 #[.val (.ref u0), .val (.int (3 : Int32)), .val (.long c2), .second, .val (.int (0 : Int32))] [(.ref u0), (.int (3 : Int32))])) _
          refine X54.arraylength hx (by rw [e54]; exact Ar55.1) (State.isArrayOf_alike hZ.alike Ar55.2.1) (g := (mkF m 4 #[.val (.ref u0), .val (.int (3 : Int32)), .val (.long c2), .second, .val (.int (0 : Int32))] [(.ref u0), (.int (3 : Int32))])) rfl rfl (hb hby d3_4) _ ?_
          rw [len_of S55 M55]
          show Steps p.tables e below (T54.setTop (mkF m 5 #[.val (.ref u0), .val (.int (3 : Int32)), .val (.long c2), .second, .val (.int (0 : Int32))] [(.int (3 : Int32)), (.int (3 : Int32))])) _
          refine XS.icmpYes X54.here hx rfl (pc0 := 5) (pc' := 60) rfl (hb hby d3_5) rfl (flt (by decide : ¬ ((3 : Int32) < (3 : Int32)))).2.1 (by decide) (by decide) ?_
          show Steps p.tables e below (T54.setTop (mkF m 60 #[.val (.ref u0), .val (.int (3 : Int32)), .val (.long c2), .second, .val (.int (0 : Int32))] [])) _
          exact X54.returnOut hx Bd.returns (hb hby d3_60) hr
        · show Q3n3 Z u0 kA dv c0 c1 c2 h0 n0 _ T54.heap _
          rw [e54]
          have k0 := mt Int64.lt_iff_toInt_lt.mpr hc28_5
          have k1 := Int64.lt_iff_toInt_lt.mp hc28_40
          have k2 := mt Int64.lt_iff_toInt_lt.mpr hc28_46
          have r0 : (own_X (own_X c0 c1) c2) = c0 := by
            apply Int64.toInt_inj.mp
            simp only [own_xi, own_ni]
            omega
          have r1 : (own_X (own_N c0 c1) (own_N (own_X c0 c1) c2)) = c2 := by
            apply Int64.toInt_inj.mp
            simp only [own_xi, own_ni]
            omega
          have r2 : (own_N (own_N c0 c1) (own_N (own_X c0 c1) c2)) = c1 := by
            apply Int64.toInt_inj.mp
            simp only [own_xi, own_ni]
            omega
          refine ⟨rfl, N54, Kp54, ?_⟩
          rw [r0, r1, r2]
          exact V54
    · have K : ∀ target, Steps p.tables e below (T35.setTop (mkF m 47 #[.val (.ref u0), .val (.int (2 : Int32)), .val (.long c2), .second, .val (.int (1 : Int32))] [])) target → Steps p.tables e below (T35.setTop (mkF m 28 #[.val (.ref u0), .val (.int (2 : Int32)), .val (.long c2), .second, .val (.int (1 : Int32))] [(.int (lcmpW c1 c2))])) target := by
        intro target kt
        refine XS.ifYes X35.here hx rfl (pc0 := 28) (pc' := 47) rfl (hb hby d3_28) rfl ((if0 _ _).trans (flt (fun q => hc28_40 ((lw_lt c1 c2).mp q))).2.1) (by decide) (by decide) ?_
        exact kt
      refine Done.of ?_ K
      obtain ⟨cl56, Ar56, qq56, S56, M56, H56, G56⟩ := id V35
      have hin56 : ¬ ((2 : Int32) < 0 ∨ cl56.slots.size ≤ ((2 : Int32)).toNatClampNeg) := inb_of S56 ⟨by decide, by decide⟩
      obtain ⟨T57, h57, X57, e57, W57, st57⟩ := stJ X35 hx hZ e35 Ar56 (j := (2 : Int32)) hin56 (g := (mkF m 53 #[.val (.ref u0), .val (.int (2 : Int32)), .val (.long c2), .second, .val (.int (1 : Int32))] [(.long c2), (.int (2 : Int32)), (.ref u0)])) rfl rfl (hb hby d3_53)
      have V57 : Arv Z h57 u0 kA .long (3 : Int32) [(.long c0), (.long c1), (.long c2)] _ := Arv.set Ar56 qq56 S56 M56 H56 G56 rfl W57 2 rfl (Nat.le_of_ble_eq_true rfl)
      have N57 := Fr.snoc X57 N35 g0
      have Z57 : n0 ≤ h57.size := Nat.le_trans Z35 (Nat.le_of_eq W57.size.symm)
      have Kp57 := Kp35.wr W57 (Or.inl (List.mem_of_getElem? (i := 0) rfl))
      obtain ⟨cl58, Ar58, qq58, S58, M58, H58, G58⟩ := id V57
      obtain ⟨fs, hr, hrun, hended, hW, hsame⟩ := X57.leave (v := none) (fun _ => rfl)
      refine ⟨_, _, ?_, hrun, hended, _, _, rfl, ?_, ⟨_, rfl⟩, hW, hsame.mono (by decide) (by decide)⟩
      · show Steps p.tables e below (T35.setTop (mkF m 47 #[.val (.ref u0), .val (.int (2 : Int32)), .val (.long c2), .second, .val (.int (1 : Int32))] [])) _
        refine XS.aloadN X35.here hx rfl (hb hby d3_47) rfl rfl ?_
        show Steps p.tables e below (T35.setTop (mkF m 48 #[.val (.ref u0), .val (.int (2 : Int32)), .val (.long c2), .second, .val (.int (1 : Int32))] [(.ref u0)])) _
        refine XS.iload X35.here hx rfl (hb hby d3_48) rfl ?_
        show Steps p.tables e below (T35.setTop (mkF m 50 #[.val (.ref u0), .val (.int (2 : Int32)), .val (.long c2), .second, .val (.int (1 : Int32))] [(.int (1 : Int32)), (.ref u0)])) _
        refine XS.iconst X35.here hx rfl (hb hby d3_50) ?_
        show Steps p.tables e below (T35.setTop (mkF m 51 #[.val (.ref u0), .val (.int (2 : Int32)), .val (.long c2), .second, .val (.int (1 : Int32))] [(.int (1 : Int32)), (.int (1 : Int32)), (.ref u0)])) _
        refine XS.iadd X35.here hx rfl (hb hby d3_51) rfl ?_
        rw [show ((1 : Int32) + (1 : Int32)) = (2 : Int32) from by decide]
        show Steps p.tables e below (T35.setTop (mkF m 52 #[.val (.ref u0), .val (.int (2 : Int32)), .val (.long c2), .second, .val (.int (1 : Int32))] [(.int (2 : Int32)), (.ref u0)])) _
        refine XS.lloadN X35.here hx rfl (hb hby d3_52) rfl ?_
        show Steps p.tables e below (T35.setTop (mkF m 53 #[.val (.ref u0), .val (.int (2 : Int32)), .val (.long c2), .second, .val (.int (1 : Int32))] [(.long c2), (.int (2 : Int32)), (.ref u0)])) _
        refine st57 _ ?_
        show Steps p.tables e below (T57.setTop (mkF m 54 #[.val (.ref u0), .val (.int (2 : Int32)), .val (.long c2), .second, .val (.int (1 : Int32))] [])) _
        refine XS.iinc X57.here hx rfl (hb hby d3_54) rfl (l' := #[.val (.ref u0), .val (.int ((2 : Int32) + (1 : Int32))), .val (.long c2), .second, .val (.int (1 : Int32))]) rfl ?_
        rw [show ((2 : Int32) + (1 : Int32)) = (3 : Int32) from by decide]
        show Steps p.tables e below (T57.setTop (mkF m 57 #[.val (.ref u0), .val (.int (3 : Int32)), .val (.long c2), .second, .val (.int (1 : Int32))] [])) _
        refine XS.goto X57.here hx rfl (pc0 := 57) (pc' := 2) rfl (hb hby d3_57) (by decide) (by decide) ?_
        show Steps p.tables e below (T57.setTop (mkF m 2 #[.val (.ref u0), .val (.int (3 : Int32)), .val (.long c2), .second, .val (.int (1 : Int32))] [])) _
        refine XS.iloadN X57.here hx rfl (hb hby d3_2) rfl ?_
        show Steps p.tables e below (T57.setTop (mkF m 3 #[.val (.ref u0), .val (.int (3 : Int32)), .val (.long c2), .second, .val (.int (1 : Int32))] [(.int (3 : Int32))])) _
        refine XS.aloadN X57.here hx rfl (hb hby d3_3) rfl rfl ?_
        show Steps p.tables e below (T57.setTop (mkF m 4 #[.val (.ref u0), .val (.int (3 : Int32)), .val (.long c2), .second, .val (.int (1 : Int32))] [(.ref u0), (.int (3 : Int32))])) _
        refine X57.arraylength hx (by rw [e57]; exact Ar58.1) (State.isArrayOf_alike hZ.alike Ar58.2.1) (g := (mkF m 4 #[.val (.ref u0), .val (.int (3 : Int32)), .val (.long c2), .second, .val (.int (1 : Int32))] [(.ref u0), (.int (3 : Int32))])) rfl rfl (hb hby d3_4) _ ?_
        rw [len_of S58 M58]
        show Steps p.tables e below (T57.setTop (mkF m 5 #[.val (.ref u0), .val (.int (3 : Int32)), .val (.long c2), .second, .val (.int (1 : Int32))] [(.int (3 : Int32)), (.int (3 : Int32))])) _
        refine XS.icmpYes X57.here hx rfl (pc0 := 5) (pc' := 60) rfl (hb hby d3_5) rfl (flt (by decide : ¬ ((3 : Int32) < (3 : Int32)))).2.1 (by decide) (by decide) ?_
        show Steps p.tables e below (T57.setTop (mkF m 60 #[.val (.ref u0), .val (.int (3 : Int32)), .val (.long c2), .second, .val (.int (1 : Int32))] [])) _
        exact X57.returnOut hx Bd.returns (hb hby d3_60) hr
      · show Q3n3 Z u0 kA dv c0 c1 c2 h0 n0 _ T57.heap _
        rw [e57]
        have k0 := mt Int64.lt_iff_toInt_lt.mpr hc28_5
        have k1 := mt Int64.lt_iff_toInt_lt.mpr hc28_40
        have r0 : (own_X (own_X c0 c1) c2) = c0 := by
          apply Int64.toInt_inj.mp
          simp only [own_xi, own_ni]
          omega
        have r1 : (own_X (own_N c0 c1) (own_N (own_X c0 c1) c2)) = c1 := by
          apply Int64.toInt_inj.mp
          simp only [own_xi, own_ni]
          omega
        have r2 : (own_N (own_N c0 c1) (own_N (own_X c0 c1) c2)) = c2 := by
          apply Int64.toInt_inj.mp
          simp only [own_xi, own_ni]
          omega
        refine ⟨rfl, N57, Kp57, ?_⟩
        rw [r0, r1, r2]
        exact V57
theorem ef_3n4 (m : MethodId) (u0 : Addr)  : entryFrame m #[(.ref u0)] 5 = mkF m 0 #[.val (.ref u0), .unset, .unset, .unset, .unset] [] := by first | (simp [entryFrame, mkF, argsToLocals, Value.category]; done) | rfl
def Q3n4 (Z : State) (u0 : Addr) (kA : ClassId) (dv : Value) (c0 : Int64) (c1 : Int64) (c2 : Int64) (c3 : Int64) (h0 : Heap) (n0 : Nat) (v : Option Value) (h : Heap) (L : List Loc) : Prop := v = none ∧ Fr n0 L ∧ Keep h0 h [u0] ∧ Arv Z h u0 kA .long (4 : Int32) [(.long (own_X (own_X c0 c1) (own_X c2 c3))), (.long (own_X (own_X (own_N c0 c1) (own_N c2 c3)) (own_N (own_X c0 c1) (own_X c2 c3)))), (.long (own_N (own_X (own_N c0 c1) (own_N c2 c3)) (own_N (own_X c0 c1) (own_X c2 c3)))), (.long (own_N (own_N c0 c1) (own_N c2 c3)))] dv
set_option maxRecDepth 65536 in
set_option maxHeartbeats 40000000 in
theorem rm3n4 (l : Launch) (Z : State) (a0 : Array Value) (hw : ∀ d ∈ tables_1, d.before a0 Z = true) (ws : List Jvm.Cond) (u0 : Addr) (kA : ClassId) (dv : Value) (c0 : Int64) (c1 : Int64) (c2 : Int64) (c3 : Int64) (h0 : Heap) (n0 : Nat) (Z0 : n0 ≤ h0.size) (V0 : Arv Z h0 u0 kA .long (4 : Int32) [(.long c0), (.long c1), (.long c2), (.long c3)] dv) (g0 : n0 ≤ u0) :
    MetFree l (⟨"com/example/firepick/firepick/TimeTags", "rank", "([J)V"⟩ : MethodName) (head1 (Jvm.Cond.code (⟨"com/example/firepick/firepick/TimeTags", "rank", "([J)V"⟩ : MethodName) prog_84_method_3_code 5 none :: ws) ({ frames := 0, cells := 0, slots := 0, locals := 0 } : Room)) (fun a U => a = #[(.ref u0)] ∧ Z.Warmed39 U.vm ∧ U.heap = h0) (fun _ _ _ _ _ => True) (fun _ U o U' => ∃ v L, o = .returned v ∧ Q3n4 Z u0 kA dv c0 c1 c2 c3 h0 n0 v U'.heap L ∧ FrameEnd U o U' L ({ frames := 0, cells := 0, slots := 0, locals := 0 } : Room).cells ({ frames := 0, cells := 0, slots := 0, locals := 0 } : Room).slots) := by
  refine MetFree.of_bodySF (plainFor_of_name pn_3) hisR ?_
  intro p e s m args below meth c s₁ Bd hml0 hP hK
  obtain ⟨rfl, hZ, hh⟩ := hP
  have hx := Bd.exec
  have hby := Bd.bytes
  have hml : c.maxLocals = 5 := hml0
  have hown : s.vm.findClass "com/example/firepick/firepick/TimeTags" = some m.cls := findClass_of_methodNamed Bd.named
  have hnm := (name_of_methodNamed Bd.named Bd.method).1
  have X0 : Stand p l e ({ frames := 0, cells := 0, slots := 0, locals := 0 } : Room) s m #[(.ref u0)] below meth c s₁ [] 0 0 := Stand.of_body Bd
  have e0 : s₁.heap = h0 := by rw [← hh, Bd.state]; rfl
  have N0 := Fr.nil n0
  have pre0 : ∀ t, Steps p.tables e below (s₁.setTop (mkF m 0 #[.val (.ref u0), .unset, .unset, .unset, .unset] [])) t → Steps p.tables e below (s₁.setTop (entryFrame m #[(.ref u0)] 5)) t := fun t k => castTop (ef_3n4 m u0) k
  show Done p e below _ _
  refine Done.of ?_ pre0
  obtain ⟨cl1, Ar1, qq1, S1, M1, H1, G1⟩ := id V0
  obtain ⟨cl2, Ar2, qq2, S2, M2, H2, G2⟩ := id V0
  have hin2 : ¬ ((1 : Int32) < 0 ∨ cl2.slots.size ≤ ((1 : Int32)).toNatClampNeg) := inb_of S2 ⟨by decide, by decide⟩
  have hat2 : cl2.slots[((1 : Int32)).toNatClampNeg]? = some (.long c1) := H2 1 (by rw [S2]; decide)
  obtain ⟨cl3, Ar3, qq3, S3, M3, H3, G3⟩ := id V0
  have hin3 : ¬ ((0 : Int32) < 0 ∨ cl3.slots.size ≤ ((0 : Int32)).toNatClampNeg) := inb_of S3 ⟨by decide, by decide⟩
  have hat3 : cl3.slots[((0 : Int32)).toNatClampNeg]? = some (.long c0) := H3 0 (by rw [S3]; decide)
  have K4 : ∀ target, Steps p.tables e below (s₁.setTop (mkF m 28 #[.val (.ref u0), .val (.int (1 : Int32)), .val (.long c1), .second, .val (.int (0 : Int32))] [(.int (lcmpW c0 c1))])) target → Steps p.tables e below (s₁.setTop (mkF m 0 #[.val (.ref u0), .unset, .unset, .unset, .unset] [])) target := by
    intro target kt
    show Steps p.tables e below (s₁.setTop (mkF m 0 #[.val (.ref u0), .unset, .unset, .unset, .unset] [])) _
    refine XS.iconst X0.here hx rfl (hb hby d3_0) ?_
    show Steps p.tables e below (s₁.setTop (mkF m 1 #[.val (.ref u0), .unset, .unset, .unset, .unset] [(.int (1 : Int32))])) _
    refine XS.istoreN X0.here hx rfl (hb hby d3_1) rfl (l' := #[.val (.ref u0), .val (.int (1 : Int32)), .unset, .unset, .unset]) rfl ?_
    show Steps p.tables e below (s₁.setTop (mkF m 2 #[.val (.ref u0), .val (.int (1 : Int32)), .unset, .unset, .unset] [])) _
    refine XS.iloadN X0.here hx rfl (hb hby d3_2) rfl ?_
    show Steps p.tables e below (s₁.setTop (mkF m 3 #[.val (.ref u0), .val (.int (1 : Int32)), .unset, .unset, .unset] [(.int (1 : Int32))])) _
    refine XS.aloadN X0.here hx rfl (hb hby d3_3) rfl rfl ?_
    show Steps p.tables e below (s₁.setTop (mkF m 4 #[.val (.ref u0), .val (.int (1 : Int32)), .unset, .unset, .unset] [(.ref u0), (.int (1 : Int32))])) _
    refine X0.arraylength hx (by rw [e0]; exact Ar1.1) (State.isArrayOf_alike hZ.alike Ar1.2.1) (g := (mkF m 4 #[.val (.ref u0), .val (.int (1 : Int32)), .unset, .unset, .unset] [(.ref u0), (.int (1 : Int32))])) rfl rfl (hb hby d3_4) _ ?_
    rw [len_of S1 M1]
    show Steps p.tables e below (s₁.setTop (mkF m 5 #[.val (.ref u0), .val (.int (1 : Int32)), .unset, .unset, .unset] [(.int (4 : Int32)), (.int (1 : Int32))])) _
    refine XS.icmpNo X0.here hx rfl (hb hby d3_5) rfl (tlt (by decide : (1 : Int32) < (4 : Int32))).2.1 ?_
    show Steps p.tables e below (s₁.setTop (mkF m 8 #[.val (.ref u0), .val (.int (1 : Int32)), .unset, .unset, .unset] [])) _
    refine XS.aloadN X0.here hx rfl (hb hby d3_8) rfl rfl ?_
    show Steps p.tables e below (s₁.setTop (mkF m 9 #[.val (.ref u0), .val (.int (1 : Int32)), .unset, .unset, .unset] [(.ref u0)])) _
    refine XS.iloadN X0.here hx rfl (hb hby d3_9) rfl ?_
    show Steps p.tables e below (s₁.setTop (mkF m 10 #[.val (.ref u0), .val (.int (1 : Int32)), .unset, .unset, .unset] [(.int (1 : Int32)), (.ref u0)])) _
    refine X0.laload hx (j := (1 : Int32)) (v := (.long c1)) (by rw [e0]; exact Ar2.1) (State.isArrayOf_alike hZ.alike Ar2.2.1) Ar2.2.2 hin2 hat2 (g := (mkF m 10 #[.val (.ref u0), .val (.int (1 : Int32)), .unset, .unset, .unset] [(.int (1 : Int32)), (.ref u0)])) rfl rfl (hb hby d3_10) _ ?_
    show Steps p.tables e below (s₁.setTop (mkF m 11 #[.val (.ref u0), .val (.int (1 : Int32)), .unset, .unset, .unset] [(.long c1)])) _
    refine XS.lstoreN X0.here hx rfl (hb hby d3_11) rfl (l' := #[.val (.ref u0), .val (.int (1 : Int32)), .val (.long c1), .second, .unset]) rfl ?_
    show Steps p.tables e below (s₁.setTop (mkF m 12 #[.val (.ref u0), .val (.int (1 : Int32)), .val (.long c1), .second, .unset] [])) _
    refine XS.iloadN X0.here hx rfl (hb hby d3_12) rfl ?_
    show Steps p.tables e below (s₁.setTop (mkF m 13 #[.val (.ref u0), .val (.int (1 : Int32)), .val (.long c1), .second, .unset] [(.int (1 : Int32))])) _
    refine XS.iconst X0.here hx rfl (hb hby d3_13) ?_
    show Steps p.tables e below (s₁.setTop (mkF m 14 #[.val (.ref u0), .val (.int (1 : Int32)), .val (.long c1), .second, .unset] [(.int (1 : Int32)), (.int (1 : Int32))])) _
    refine XS.isub X0.here hx rfl (hb hby d3_14) rfl ?_
    rw [show ((1 : Int32) - (1 : Int32)) = (0 : Int32) from by decide]
    show Steps p.tables e below (s₁.setTop (mkF m 15 #[.val (.ref u0), .val (.int (1 : Int32)), .val (.long c1), .second, .unset] [(.int (0 : Int32))])) _
    refine XS.istore X0.here hx rfl (hb hby d3_15) rfl (l' := #[.val (.ref u0), .val (.int (1 : Int32)), .val (.long c1), .second, .val (.int (0 : Int32))]) rfl ?_
    show Steps p.tables e below (s₁.setTop (mkF m 17 #[.val (.ref u0), .val (.int (1 : Int32)), .val (.long c1), .second, .val (.int (0 : Int32))] [])) _
    refine XS.iload X0.here hx rfl (hb hby d3_17) rfl ?_
    show Steps p.tables e below (s₁.setTop (mkF m 19 #[.val (.ref u0), .val (.int (1 : Int32)), .val (.long c1), .second, .val (.int (0 : Int32))] [(.int (0 : Int32))])) _
    refine XS.ifNo X0.here hx rfl (hb hby d3_19) rfl ((if0 _ _).trans (flt (by decide : ¬ ((0 : Int32) < (0 : Int32)))).1) ?_
    show Steps p.tables e below (s₁.setTop (mkF m 22 #[.val (.ref u0), .val (.int (1 : Int32)), .val (.long c1), .second, .val (.int (0 : Int32))] [])) _
    refine XS.aloadN X0.here hx rfl (hb hby d3_22) rfl rfl ?_
    show Steps p.tables e below (s₁.setTop (mkF m 23 #[.val (.ref u0), .val (.int (1 : Int32)), .val (.long c1), .second, .val (.int (0 : Int32))] [(.ref u0)])) _
    refine XS.iload X0.here hx rfl (hb hby d3_23) rfl ?_
    show Steps p.tables e below (s₁.setTop (mkF m 25 #[.val (.ref u0), .val (.int (1 : Int32)), .val (.long c1), .second, .val (.int (0 : Int32))] [(.int (0 : Int32)), (.ref u0)])) _
    refine X0.laload hx (j := (0 : Int32)) (v := (.long c0)) (by rw [e0]; exact Ar3.1) (State.isArrayOf_alike hZ.alike Ar3.2.1) Ar3.2.2 hin3 hat3 (g := (mkF m 25 #[.val (.ref u0), .val (.int (1 : Int32)), .val (.long c1), .second, .val (.int (0 : Int32))] [(.int (0 : Int32)), (.ref u0)])) rfl rfl (hb hby d3_25) _ ?_
    show Steps p.tables e below (s₁.setTop (mkF m 26 #[.val (.ref u0), .val (.int (1 : Int32)), .val (.long c1), .second, .val (.int (0 : Int32))] [(.long c0)])) _
    refine XS.lloadN X0.here hx rfl (hb hby d3_26) rfl ?_
    show Steps p.tables e below (s₁.setTop (mkF m 27 #[.val (.ref u0), .val (.int (1 : Int32)), .val (.long c1), .second, .val (.int (0 : Int32))] [(.long c1), (.long c0)])) _
    refine XS.lcmp X0.here hx rfl (hb hby d3_27) rfl ?_
    exact kt
  refine Done.of ?_ K4
  by_cases hc28_5 : c0 < c1
  · have K : ∀ target, Steps p.tables e below (s₁.setTop (mkF m 31 #[.val (.ref u0), .val (.int (1 : Int32)), .val (.long c1), .second, .val (.int (0 : Int32))] [])) target → Steps p.tables e below (s₁.setTop (mkF m 28 #[.val (.ref u0), .val (.int (1 : Int32)), .val (.long c1), .second, .val (.int (0 : Int32))] [(.int (lcmpW c0 c1))])) target := by
      intro target kt
      refine XS.ifNo X0.here hx rfl (hb hby d3_28) rfl ((if0 _ _).trans (tlt ((lw_lt c0 c1).mpr hc28_5)).2.1) ?_
      exact kt
    refine Done.of ?_ K
    obtain ⟨cl6, Ar6, qq6, S6, M6, H6, G6⟩ := id V0
    have hin6 : ¬ ((0 : Int32) < 0 ∨ cl6.slots.size ≤ ((0 : Int32)).toNatClampNeg) := inb_of S6 ⟨by decide, by decide⟩
    have hat6 : cl6.slots[((0 : Int32)).toNatClampNeg]? = some (.long c0) := H6 0 (by rw [S6]; decide)
    obtain ⟨cl7, Ar7, qq7, S7, M7, H7, G7⟩ := id V0
    have hin7 : ¬ ((1 : Int32) < 0 ∨ cl7.slots.size ≤ ((1 : Int32)).toNatClampNeg) := inb_of S7 ⟨by decide, by decide⟩
    obtain ⟨T8, h8, X8, e8, W8, st8⟩ := stJ X0 hx hZ e0 Ar7 (j := (1 : Int32)) hin7 (g := (mkF m 40 #[.val (.ref u0), .val (.int (1 : Int32)), .val (.long c1), .second, .val (.int (0 : Int32))] [(.long c0), (.int (1 : Int32)), (.ref u0)])) rfl rfl (hb hby d3_40)
    have V8 : Arv Z h8 u0 kA .long (4 : Int32) [(.long c0), (.long c0), (.long c2), (.long c3)] _ := Arv.set Ar7 qq7 S7 M7 H7 G7 rfl W8 1 rfl (Nat.le_of_ble_eq_true rfl)
    have N8 := Fr.snoc X8 N0 g0
    have Z8 : n0 ≤ h8.size := Nat.le_trans Z0 (Nat.le_of_eq W8.size.symm)
    have Kp8 := (Keep.refl h0 [u0]).wr W8 (Or.inl (List.mem_of_getElem? (i := 0) rfl))
    obtain ⟨cl9, Ar9, qq9, S9, M9, H9, G9⟩ := id V8
    have hin9 : ¬ ((0 : Int32) < 0 ∨ cl9.slots.size ≤ ((0 : Int32)).toNatClampNeg) := inb_of S9 ⟨by decide, by decide⟩
    obtain ⟨T10, h10, X10, e10, W10, st10⟩ := stJ X8 hx hZ e8 Ar9 (j := (0 : Int32)) hin9 (g := (mkF m 53 #[.val (.ref u0), .val (.int (1 : Int32)), .val (.long c1), .second, .val (.int (-1 : Int32))] [(.long c1), (.int (0 : Int32)), (.ref u0)])) rfl rfl (hb hby d3_53)
    have V10 : Arv Z h10 u0 kA .long (4 : Int32) [(.long c1), (.long c0), (.long c2), (.long c3)] _ := Arv.set Ar9 qq9 S9 M9 H9 G9 rfl W10 0 rfl (Nat.le_of_ble_eq_true rfl)
    have N10 := Fr.snoc X10 N8 g0
    have Z10 : n0 ≤ h10.size := Nat.le_trans Z8 (Nat.le_of_eq W10.size.symm)
    have Kp10 := Kp8.wr W10 (Or.inl (List.mem_of_getElem? (i := 0) rfl))
    obtain ⟨cl11, Ar11, qq11, S11, M11, H11, G11⟩ := id V10
    obtain ⟨cl12, Ar12, qq12, S12, M12, H12, G12⟩ := id V10
    have hin12 : ¬ ((2 : Int32) < 0 ∨ cl12.slots.size ≤ ((2 : Int32)).toNatClampNeg) := inb_of S12 ⟨by decide, by decide⟩
    have hat12 : cl12.slots[((2 : Int32)).toNatClampNeg]? = some (.long c2) := H12 2 (by rw [S12]; decide)
    obtain ⟨cl13, Ar13, qq13, S13, M13, H13, G13⟩ := id V10
    have hin13 : ¬ ((1 : Int32) < 0 ∨ cl13.slots.size ≤ ((1 : Int32)).toNatClampNeg) := inb_of S13 ⟨by decide, by decide⟩
    have hat13 : cl13.slots[((1 : Int32)).toNatClampNeg]? = some (.long c0) := H13 1 (by rw [S13]; decide)
    have K14 : ∀ target, Steps p.tables e below (T10.setTop (mkF m 28 #[.val (.ref u0), .val (.int (2 : Int32)), .val (.long c2), .second, .val (.int (1 : Int32))] [(.int (lcmpW c0 c2))])) target → Steps p.tables e below (s₁.setTop (mkF m 31 #[.val (.ref u0), .val (.int (1 : Int32)), .val (.long c1), .second, .val (.int (0 : Int32))] [])) target := by
      intro target kt
      show Steps p.tables e below (s₁.setTop (mkF m 31 #[.val (.ref u0), .val (.int (1 : Int32)), .val (.long c1), .second, .val (.int (0 : Int32))] [])) _
      refine XS.aloadN X0.here hx rfl (hb hby d3_31) rfl rfl ?_
      show Steps p.tables e below (s₁.setTop (mkF m 32 #[.val (.ref u0), .val (.int (1 : Int32)), .val (.long c1), .second, .val (.int (0 : Int32))] [(.ref u0)])) _
      refine XS.iload X0.here hx rfl (hb hby d3_32) rfl ?_
      show Steps p.tables e below (s₁.setTop (mkF m 34 #[.val (.ref u0), .val (.int (1 : Int32)), .val (.long c1), .second, .val (.int (0 : Int32))] [(.int (0 : Int32)), (.ref u0)])) _
      refine XS.iconst X0.here hx rfl (hb hby d3_34) ?_
      show Steps p.tables e below (s₁.setTop (mkF m 35 #[.val (.ref u0), .val (.int (1 : Int32)), .val (.long c1), .second, .val (.int (0 : Int32))] [(.int (1 : Int32)), (.int (0 : Int32)), (.ref u0)])) _
      refine XS.iadd X0.here hx rfl (hb hby d3_35) rfl ?_
      rw [show ((0 : Int32) + (1 : Int32)) = (1 : Int32) from by decide]
      show Steps p.tables e below (s₁.setTop (mkF m 36 #[.val (.ref u0), .val (.int (1 : Int32)), .val (.long c1), .second, .val (.int (0 : Int32))] [(.int (1 : Int32)), (.ref u0)])) _
      refine XS.aloadN X0.here hx rfl (hb hby d3_36) rfl rfl ?_
      show Steps p.tables e below (s₁.setTop (mkF m 37 #[.val (.ref u0), .val (.int (1 : Int32)), .val (.long c1), .second, .val (.int (0 : Int32))] [(.ref u0), (.int (1 : Int32)), (.ref u0)])) _
      refine XS.iload X0.here hx rfl (hb hby d3_37) rfl ?_
      show Steps p.tables e below (s₁.setTop (mkF m 39 #[.val (.ref u0), .val (.int (1 : Int32)), .val (.long c1), .second, .val (.int (0 : Int32))] [(.int (0 : Int32)), (.ref u0), (.int (1 : Int32)), (.ref u0)])) _
      refine X0.laload hx (j := (0 : Int32)) (v := (.long c0)) (by rw [e0]; exact Ar6.1) (State.isArrayOf_alike hZ.alike Ar6.2.1) Ar6.2.2 hin6 hat6 (g := (mkF m 39 #[.val (.ref u0), .val (.int (1 : Int32)), .val (.long c1), .second, .val (.int (0 : Int32))] [(.int (0 : Int32)), (.ref u0), (.int (1 : Int32)), (.ref u0)])) rfl rfl (hb hby d3_39) _ ?_
      show Steps p.tables e below (s₁.setTop (mkF m 40 #[.val (.ref u0), .val (.int (1 : Int32)), .val (.long c1), .second, .val (.int (0 : Int32))] [(.long c0), (.int (1 : Int32)), (.ref u0)])) _
      refine st8 _ ?_
      show Steps p.tables e below (T8.setTop (mkF m 41 #[.val (.ref u0), .val (.int (1 : Int32)), .val (.long c1), .second, .val (.int (0 : Int32))] [])) _
      refine XS.iinc X8.here hx rfl (hb hby d3_41) rfl (l' := #[.val (.ref u0), .val (.int (1 : Int32)), .val (.long c1), .second, .val (.int ((0 : Int32) + (-1 : Int32)))]) rfl ?_
      rw [show ((0 : Int32) + (-1 : Int32)) = (-1 : Int32) from by decide]
      show Steps p.tables e below (T8.setTop (mkF m 44 #[.val (.ref u0), .val (.int (1 : Int32)), .val (.long c1), .second, .val (.int (-1 : Int32))] [])) _
      refine XS.goto X8.here hx rfl (pc0 := 44) (pc' := 17) rfl (hb hby d3_44) (by decide) (by decide) ?_
      show Steps p.tables e below (T8.setTop (mkF m 17 #[.val (.ref u0), .val (.int (1 : Int32)), .val (.long c1), .second, .val (.int (-1 : Int32))] [])) _
      refine XS.iload X8.here hx rfl (hb hby d3_17) rfl ?_
      show Steps p.tables e below (T8.setTop (mkF m 19 #[.val (.ref u0), .val (.int (1 : Int32)), .val (.long c1), .second, .val (.int (-1 : Int32))] [(.int (-1 : Int32))])) _
      refine XS.ifYes X8.here hx rfl (pc0 := 19) (pc' := 47) rfl (hb hby d3_19) rfl ((if0 _ _).trans (tlt (by decide : (-1 : Int32) < (0 : Int32))).1) (by decide) (by decide) ?_
      show Steps p.tables e below (T8.setTop (mkF m 47 #[.val (.ref u0), .val (.int (1 : Int32)), .val (.long c1), .second, .val (.int (-1 : Int32))] [])) _
      refine XS.aloadN X8.here hx rfl (hb hby d3_47) rfl rfl ?_
      show Steps p.tables e below (T8.setTop (mkF m 48 #[.val (.ref u0), .val (.int (1 : Int32)), .val (.long c1), .second, .val (.int (-1 : Int32))] [(.ref u0)])) _
      refine XS.iload X8.here hx rfl (hb hby d3_48) rfl ?_
      show Steps p.tables e below (T8.setTop (mkF m 50 #[.val (.ref u0), .val (.int (1 : Int32)), .val (.long c1), .second, .val (.int (-1 : Int32))] [(.int (-1 : Int32)), (.ref u0)])) _
      refine XS.iconst X8.here hx rfl (hb hby d3_50) ?_
      show Steps p.tables e below (T8.setTop (mkF m 51 #[.val (.ref u0), .val (.int (1 : Int32)), .val (.long c1), .second, .val (.int (-1 : Int32))] [(.int (1 : Int32)), (.int (-1 : Int32)), (.ref u0)])) _
      refine XS.iadd X8.here hx rfl (hb hby d3_51) rfl ?_
      rw [show ((-1 : Int32) + (1 : Int32)) = (0 : Int32) from by decide]
      show Steps p.tables e below (T8.setTop (mkF m 52 #[.val (.ref u0), .val (.int (1 : Int32)), .val (.long c1), .second, .val (.int (-1 : Int32))] [(.int (0 : Int32)), (.ref u0)])) _
      refine XS.lloadN X8.here hx rfl (hb hby d3_52) rfl ?_
      show Steps p.tables e below (T8.setTop (mkF m 53 #[.val (.ref u0), .val (.int (1 : Int32)), .val (.long c1), .second, .val (.int (-1 : Int32))] [(.long c1), (.int (0 : Int32)), (.ref u0)])) _
      refine st10 _ ?_
      show Steps p.tables e below (T10.setTop (mkF m 54 #[.val (.ref u0), .val (.int (1 : Int32)), .val (.long c1), .second, .val (.int (-1 : Int32))] [])) _
      refine XS.iinc X10.here hx rfl (hb hby d3_54) rfl (l' := #[.val (.ref u0), .val (.int ((1 : Int32) + (1 : Int32))), .val (.long c1), .second, .val (.int (-1 : Int32))]) rfl ?_
      rw [show ((1 : Int32) + (1 : Int32)) = (2 : Int32) from by decide]
      show Steps p.tables e below (T10.setTop (mkF m 57 #[.val (.ref u0), .val (.int (2 : Int32)), .val (.long c1), .second, .val (.int (-1 : Int32))] [])) _
      refine XS.goto X10.here hx rfl (pc0 := 57) (pc' := 2) rfl (hb hby d3_57) (by decide) (by decide) ?_
      show Steps p.tables e below (T10.setTop (mkF m 2 #[.val (.ref u0), .val (.int (2 : Int32)), .val (.long c1), .second, .val (.int (-1 : Int32))] [])) _
      refine XS.iloadN X10.here hx rfl (hb hby d3_2) rfl ?_
      show Steps p.tables e below (T10.setTop (mkF m 3 #[.val (.ref u0), .val (.int (2 : Int32)), .val (.long c1), .second, .val (.int (-1 : Int32))] [(.int (2 : Int32))])) _
      refine XS.aloadN X10.here hx rfl (hb hby d3_3) rfl rfl ?_
      show Steps p.tables e below (T10.setTop (mkF m 4 #[.val (.ref u0), .val (.int (2 : Int32)), .val (.long c1), .second, .val (.int (-1 : Int32))] [(.ref u0), (.int (2 : Int32))])) _
      refine X10.arraylength hx (by rw [e10]; exact Ar11.1) (State.isArrayOf_alike hZ.alike Ar11.2.1) (g := (mkF m 4 #[.val (.ref u0), .val (.int (2 : Int32)), .val (.long c1), .second, .val (.int (-1 : Int32))] [(.ref u0), (.int (2 : Int32))])) rfl rfl (hb hby d3_4) _ ?_
      rw [len_of S11 M11]
      show Steps p.tables e below (T10.setTop (mkF m 5 #[.val (.ref u0), .val (.int (2 : Int32)), .val (.long c1), .second, .val (.int (-1 : Int32))] [(.int (4 : Int32)), (.int (2 : Int32))])) _
      refine XS.icmpNo X10.here hx rfl (hb hby d3_5) rfl (tlt (by decide : (2 : Int32) < (4 : Int32))).2.1 ?_
      show Steps p.tables e below (T10.setTop (mkF m 8 #[.val (.ref u0), .val (.int (2 : Int32)), .val (.long c1), .second, .val (.int (-1 : Int32))] [])) _
      refine XS.aloadN X10.here hx rfl (hb hby d3_8) rfl rfl ?_
      show Steps p.tables e below (T10.setTop (mkF m 9 #[.val (.ref u0), .val (.int (2 : Int32)), .val (.long c1), .second, .val (.int (-1 : Int32))] [(.ref u0)])) _
      refine XS.iloadN X10.here hx rfl (hb hby d3_9) rfl ?_
      show Steps p.tables e below (T10.setTop (mkF m 10 #[.val (.ref u0), .val (.int (2 : Int32)), .val (.long c1), .second, .val (.int (-1 : Int32))] [(.int (2 : Int32)), (.ref u0)])) _
      refine X10.laload hx (j := (2 : Int32)) (v := (.long c2)) (by rw [e10]; exact Ar12.1) (State.isArrayOf_alike hZ.alike Ar12.2.1) Ar12.2.2 hin12 hat12 (g := (mkF m 10 #[.val (.ref u0), .val (.int (2 : Int32)), .val (.long c1), .second, .val (.int (-1 : Int32))] [(.int (2 : Int32)), (.ref u0)])) rfl rfl (hb hby d3_10) _ ?_
      show Steps p.tables e below (T10.setTop (mkF m 11 #[.val (.ref u0), .val (.int (2 : Int32)), .val (.long c1), .second, .val (.int (-1 : Int32))] [(.long c2)])) _
      refine XS.lstoreN X10.here hx rfl (hb hby d3_11) rfl (l' := #[.val (.ref u0), .val (.int (2 : Int32)), .val (.long c2), .second, .val (.int (-1 : Int32))]) rfl ?_
      show Steps p.tables e below (T10.setTop (mkF m 12 #[.val (.ref u0), .val (.int (2 : Int32)), .val (.long c2), .second, .val (.int (-1 : Int32))] [])) _
      refine XS.iloadN X10.here hx rfl (hb hby d3_12) rfl ?_
      show Steps p.tables e below (T10.setTop (mkF m 13 #[.val (.ref u0), .val (.int (2 : Int32)), .val (.long c2), .second, .val (.int (-1 : Int32))] [(.int (2 : Int32))])) _
      refine XS.iconst X10.here hx rfl (hb hby d3_13) ?_
      show Steps p.tables e below (T10.setTop (mkF m 14 #[.val (.ref u0), .val (.int (2 : Int32)), .val (.long c2), .second, .val (.int (-1 : Int32))] [(.int (1 : Int32)), (.int (2 : Int32))])) _
      refine XS.isub X10.here hx rfl (hb hby d3_14) rfl ?_
      rw [show ((2 : Int32) - (1 : Int32)) = (1 : Int32) from by decide]
      show Steps p.tables e below (T10.setTop (mkF m 15 #[.val (.ref u0), .val (.int (2 : Int32)), .val (.long c2), .second, .val (.int (-1 : Int32))] [(.int (1 : Int32))])) _
      refine XS.istore X10.here hx rfl (hb hby d3_15) rfl (l' := #[.val (.ref u0), .val (.int (2 : Int32)), .val (.long c2), .second, .val (.int (1 : Int32))]) rfl ?_
      show Steps p.tables e below (T10.setTop (mkF m 17 #[.val (.ref u0), .val (.int (2 : Int32)), .val (.long c2), .second, .val (.int (1 : Int32))] [])) _
      refine XS.iload X10.here hx rfl (hb hby d3_17) rfl ?_
      show Steps p.tables e below (T10.setTop (mkF m 19 #[.val (.ref u0), .val (.int (2 : Int32)), .val (.long c2), .second, .val (.int (1 : Int32))] [(.int (1 : Int32))])) _
      refine XS.ifNo X10.here hx rfl (hb hby d3_19) rfl ((if0 _ _).trans (flt (by decide : ¬ ((1 : Int32) < (0 : Int32)))).1) ?_
      show Steps p.tables e below (T10.setTop (mkF m 22 #[.val (.ref u0), .val (.int (2 : Int32)), .val (.long c2), .second, .val (.int (1 : Int32))] [])) _
      refine XS.aloadN X10.here hx rfl (hb hby d3_22) rfl rfl ?_
      show Steps p.tables e below (T10.setTop (mkF m 23 #[.val (.ref u0), .val (.int (2 : Int32)), .val (.long c2), .second, .val (.int (1 : Int32))] [(.ref u0)])) _
      refine XS.iload X10.here hx rfl (hb hby d3_23) rfl ?_
      show Steps p.tables e below (T10.setTop (mkF m 25 #[.val (.ref u0), .val (.int (2 : Int32)), .val (.long c2), .second, .val (.int (1 : Int32))] [(.int (1 : Int32)), (.ref u0)])) _
      refine X10.laload hx (j := (1 : Int32)) (v := (.long c0)) (by rw [e10]; exact Ar13.1) (State.isArrayOf_alike hZ.alike Ar13.2.1) Ar13.2.2 hin13 hat13 (g := (mkF m 25 #[.val (.ref u0), .val (.int (2 : Int32)), .val (.long c2), .second, .val (.int (1 : Int32))] [(.int (1 : Int32)), (.ref u0)])) rfl rfl (hb hby d3_25) _ ?_
      show Steps p.tables e below (T10.setTop (mkF m 26 #[.val (.ref u0), .val (.int (2 : Int32)), .val (.long c2), .second, .val (.int (1 : Int32))] [(.long c0)])) _
      refine XS.lloadN X10.here hx rfl (hb hby d3_26) rfl ?_
      show Steps p.tables e below (T10.setTop (mkF m 27 #[.val (.ref u0), .val (.int (2 : Int32)), .val (.long c2), .second, .val (.int (1 : Int32))] [(.long c2), (.long c0)])) _
      refine XS.lcmp X10.here hx rfl (hb hby d3_27) rfl ?_
      exact kt
    refine Done.of ?_ K14
    by_cases hc28_15 : c0 < c2
    · have K : ∀ target, Steps p.tables e below (T10.setTop (mkF m 31 #[.val (.ref u0), .val (.int (2 : Int32)), .val (.long c2), .second, .val (.int (1 : Int32))] [])) target → Steps p.tables e below (T10.setTop (mkF m 28 #[.val (.ref u0), .val (.int (2 : Int32)), .val (.long c2), .second, .val (.int (1 : Int32))] [(.int (lcmpW c0 c2))])) target := by
        intro target kt
        refine XS.ifNo X10.here hx rfl (hb hby d3_28) rfl ((if0 _ _).trans (tlt ((lw_lt c0 c2).mpr hc28_15)).2.1) ?_
        exact kt
      refine Done.of ?_ K
      obtain ⟨cl16, Ar16, qq16, S16, M16, H16, G16⟩ := id V10
      have hin16 : ¬ ((1 : Int32) < 0 ∨ cl16.slots.size ≤ ((1 : Int32)).toNatClampNeg) := inb_of S16 ⟨by decide, by decide⟩
      have hat16 : cl16.slots[((1 : Int32)).toNatClampNeg]? = some (.long c0) := H16 1 (by rw [S16]; decide)
      obtain ⟨cl17, Ar17, qq17, S17, M17, H17, G17⟩ := id V10
      have hin17 : ¬ ((2 : Int32) < 0 ∨ cl17.slots.size ≤ ((2 : Int32)).toNatClampNeg) := inb_of S17 ⟨by decide, by decide⟩
      obtain ⟨T18, h18, X18, e18, W18, st18⟩ := stJ X10 hx hZ e10 Ar17 (j := (2 : Int32)) hin17 (g := (mkF m 40 #[.val (.ref u0), .val (.int (2 : Int32)), .val (.long c2), .second, .val (.int (1 : Int32))] [(.long c0), (.int (2 : Int32)), (.ref u0)])) rfl rfl (hb hby d3_40)
      have V18 : Arv Z h18 u0 kA .long (4 : Int32) [(.long c1), (.long c0), (.long c0), (.long c3)] _ := Arv.set Ar17 qq17 S17 M17 H17 G17 rfl W18 2 rfl (Nat.le_of_ble_eq_true rfl)
      have N18 := Fr.snoc X18 N10 g0
      have Z18 : n0 ≤ h18.size := Nat.le_trans Z10 (Nat.le_of_eq W18.size.symm)
      have Kp18 := Kp10.wr W18 (Or.inl (List.mem_of_getElem? (i := 0) rfl))
      obtain ⟨cl19, Ar19, qq19, S19, M19, H19, G19⟩ := id V18
      have hin19 : ¬ ((0 : Int32) < 0 ∨ cl19.slots.size ≤ ((0 : Int32)).toNatClampNeg) := inb_of S19 ⟨by decide, by decide⟩
      have hat19 : cl19.slots[((0 : Int32)).toNatClampNeg]? = some (.long c1) := H19 0 (by rw [S19]; decide)
      have K20 : ∀ target, Steps p.tables e below (T18.setTop (mkF m 28 #[.val (.ref u0), .val (.int (2 : Int32)), .val (.long c2), .second, .val (.int (0 : Int32))] [(.int (lcmpW c1 c2))])) target → Steps p.tables e below (T10.setTop (mkF m 31 #[.val (.ref u0), .val (.int (2 : Int32)), .val (.long c2), .second, .val (.int (1 : Int32))] [])) target := by
        intro target kt
        show Steps p.tables e below (T10.setTop (mkF m 31 #[.val (.ref u0), .val (.int (2 : Int32)), .val (.long c2), .second, .val (.int (1 : Int32))] [])) _
        refine XS.aloadN X10.here hx rfl (hb hby d3_31) rfl rfl ?_
        show Steps p.tables e below (T10.setTop (mkF m 32 #[.val (.ref u0), .val (.int (2 : Int32)), .val (.long c2), .second, .val (.int (1 : Int32))] [(.ref u0)])) _
        refine XS.iload X10.here hx rfl (hb hby d3_32) rfl ?_
        show Steps p.tables e below (T10.setTop (mkF m 34 #[.val (.ref u0), .val (.int (2 : Int32)), .val (.long c2), .second, .val (.int (1 : Int32))] [(.int (1 : Int32)), (.ref u0)])) _
        refine XS.iconst X10.here hx rfl (hb hby d3_34) ?_
        show Steps p.tables e below (T10.setTop (mkF m 35 #[.val (.ref u0), .val (.int (2 : Int32)), .val (.long c2), .second, .val (.int (1 : Int32))] [(.int (1 : Int32)), (.int (1 : Int32)), (.ref u0)])) _
        refine XS.iadd X10.here hx rfl (hb hby d3_35) rfl ?_
        rw [show ((1 : Int32) + (1 : Int32)) = (2 : Int32) from by decide]
        show Steps p.tables e below (T10.setTop (mkF m 36 #[.val (.ref u0), .val (.int (2 : Int32)), .val (.long c2), .second, .val (.int (1 : Int32))] [(.int (2 : Int32)), (.ref u0)])) _
        refine XS.aloadN X10.here hx rfl (hb hby d3_36) rfl rfl ?_
        show Steps p.tables e below (T10.setTop (mkF m 37 #[.val (.ref u0), .val (.int (2 : Int32)), .val (.long c2), .second, .val (.int (1 : Int32))] [(.ref u0), (.int (2 : Int32)), (.ref u0)])) _
        refine XS.iload X10.here hx rfl (hb hby d3_37) rfl ?_
        show Steps p.tables e below (T10.setTop (mkF m 39 #[.val (.ref u0), .val (.int (2 : Int32)), .val (.long c2), .second, .val (.int (1 : Int32))] [(.int (1 : Int32)), (.ref u0), (.int (2 : Int32)), (.ref u0)])) _
        refine X10.laload hx (j := (1 : Int32)) (v := (.long c0)) (by rw [e10]; exact Ar16.1) (State.isArrayOf_alike hZ.alike Ar16.2.1) Ar16.2.2 hin16 hat16 (g := (mkF m 39 #[.val (.ref u0), .val (.int (2 : Int32)), .val (.long c2), .second, .val (.int (1 : Int32))] [(.int (1 : Int32)), (.ref u0), (.int (2 : Int32)), (.ref u0)])) rfl rfl (hb hby d3_39) _ ?_
        show Steps p.tables e below (T10.setTop (mkF m 40 #[.val (.ref u0), .val (.int (2 : Int32)), .val (.long c2), .second, .val (.int (1 : Int32))] [(.long c0), (.int (2 : Int32)), (.ref u0)])) _
        refine st18 _ ?_
        show Steps p.tables e below (T18.setTop (mkF m 41 #[.val (.ref u0), .val (.int (2 : Int32)), .val (.long c2), .second, .val (.int (1 : Int32))] [])) _
        refine XS.iinc X18.here hx rfl (hb hby d3_41) rfl (l' := #[.val (.ref u0), .val (.int (2 : Int32)), .val (.long c2), .second, .val (.int ((1 : Int32) + (-1 : Int32)))]) rfl ?_
        rw [show ((1 : Int32) + (-1 : Int32)) = (0 : Int32) from by decide]
        show Steps p.tables e below (T18.setTop (mkF m 44 #[.val (.ref u0), .val (.int (2 : Int32)), .val (.long c2), .second, .val (.int (0 : Int32))] [])) _
        refine XS.goto X18.here hx rfl (pc0 := 44) (pc' := 17) rfl (hb hby d3_44) (by decide) (by decide) ?_
        show Steps p.tables e below (T18.setTop (mkF m 17 #[.val (.ref u0), .val (.int (2 : Int32)), .val (.long c2), .second, .val (.int (0 : Int32))] [])) _
        refine XS.iload X18.here hx rfl (hb hby d3_17) rfl ?_
        show Steps p.tables e below (T18.setTop (mkF m 19 #[.val (.ref u0), .val (.int (2 : Int32)), .val (.long c2), .second, .val (.int (0 : Int32))] [(.int (0 : Int32))])) _
        refine XS.ifNo X18.here hx rfl (hb hby d3_19) rfl ((if0 _ _).trans (flt (by decide : ¬ ((0 : Int32) < (0 : Int32)))).1) ?_
        show Steps p.tables e below (T18.setTop (mkF m 22 #[.val (.ref u0), .val (.int (2 : Int32)), .val (.long c2), .second, .val (.int (0 : Int32))] [])) _
        refine XS.aloadN X18.here hx rfl (hb hby d3_22) rfl rfl ?_
        show Steps p.tables e below (T18.setTop (mkF m 23 #[.val (.ref u0), .val (.int (2 : Int32)), .val (.long c2), .second, .val (.int (0 : Int32))] [(.ref u0)])) _
        refine XS.iload X18.here hx rfl (hb hby d3_23) rfl ?_
        show Steps p.tables e below (T18.setTop (mkF m 25 #[.val (.ref u0), .val (.int (2 : Int32)), .val (.long c2), .second, .val (.int (0 : Int32))] [(.int (0 : Int32)), (.ref u0)])) _
        refine X18.laload hx (j := (0 : Int32)) (v := (.long c1)) (by rw [e18]; exact Ar19.1) (State.isArrayOf_alike hZ.alike Ar19.2.1) Ar19.2.2 hin19 hat19 (g := (mkF m 25 #[.val (.ref u0), .val (.int (2 : Int32)), .val (.long c2), .second, .val (.int (0 : Int32))] [(.int (0 : Int32)), (.ref u0)])) rfl rfl (hb hby d3_25) _ ?_
        show Steps p.tables e below (T18.setTop (mkF m 26 #[.val (.ref u0), .val (.int (2 : Int32)), .val (.long c2), .second, .val (.int (0 : Int32))] [(.long c1)])) _
        refine XS.lloadN X18.here hx rfl (hb hby d3_26) rfl ?_
        show Steps p.tables e below (T18.setTop (mkF m 27 #[.val (.ref u0), .val (.int (2 : Int32)), .val (.long c2), .second, .val (.int (0 : Int32))] [(.long c2), (.long c1)])) _
        refine XS.lcmp X18.here hx rfl (hb hby d3_27) rfl ?_
        exact kt
      refine Done.of ?_ K20
      by_cases hc28_21 : c1 < c2
      · have K : ∀ target, Steps p.tables e below (T18.setTop (mkF m 31 #[.val (.ref u0), .val (.int (2 : Int32)), .val (.long c2), .second, .val (.int (0 : Int32))] [])) target → Steps p.tables e below (T18.setTop (mkF m 28 #[.val (.ref u0), .val (.int (2 : Int32)), .val (.long c2), .second, .val (.int (0 : Int32))] [(.int (lcmpW c1 c2))])) target := by
          intro target kt
          refine XS.ifNo X18.here hx rfl (hb hby d3_28) rfl ((if0 _ _).trans (tlt ((lw_lt c1 c2).mpr hc28_21)).2.1) ?_
          exact kt
        refine Done.of ?_ K
        obtain ⟨cl22, Ar22, qq22, S22, M22, H22, G22⟩ := id V18
        have hin22 : ¬ ((0 : Int32) < 0 ∨ cl22.slots.size ≤ ((0 : Int32)).toNatClampNeg) := inb_of S22 ⟨by decide, by decide⟩
        have hat22 : cl22.slots[((0 : Int32)).toNatClampNeg]? = some (.long c1) := H22 0 (by rw [S22]; decide)
        obtain ⟨cl23, Ar23, qq23, S23, M23, H23, G23⟩ := id V18
        have hin23 : ¬ ((1 : Int32) < 0 ∨ cl23.slots.size ≤ ((1 : Int32)).toNatClampNeg) := inb_of S23 ⟨by decide, by decide⟩
        obtain ⟨T24, h24, X24, e24, W24, st24⟩ := stJ X18 hx hZ e18 Ar23 (j := (1 : Int32)) hin23 (g := (mkF m 40 #[.val (.ref u0), .val (.int (2 : Int32)), .val (.long c2), .second, .val (.int (0 : Int32))] [(.long c1), (.int (1 : Int32)), (.ref u0)])) rfl rfl (hb hby d3_40)
        have V24 : Arv Z h24 u0 kA .long (4 : Int32) [(.long c1), (.long c1), (.long c0), (.long c3)] _ := Arv.set Ar23 qq23 S23 M23 H23 G23 rfl W24 1 rfl (Nat.le_of_ble_eq_true rfl)
        have N24 := Fr.snoc X24 N18 g0
        have Z24 : n0 ≤ h24.size := Nat.le_trans Z18 (Nat.le_of_eq W24.size.symm)
        have Kp24 := Kp18.wr W24 (Or.inl (List.mem_of_getElem? (i := 0) rfl))
        obtain ⟨cl25, Ar25, qq25, S25, M25, H25, G25⟩ := id V24
        have hin25 : ¬ ((0 : Int32) < 0 ∨ cl25.slots.size ≤ ((0 : Int32)).toNatClampNeg) := inb_of S25 ⟨by decide, by decide⟩
        obtain ⟨T26, h26, X26, e26, W26, st26⟩ := stJ X24 hx hZ e24 Ar25 (j := (0 : Int32)) hin25 (g := (mkF m 53 #[.val (.ref u0), .val (.int (2 : Int32)), .val (.long c2), .second, .val (.int (-1 : Int32))] [(.long c2), (.int (0 : Int32)), (.ref u0)])) rfl rfl (hb hby d3_53)
        have V26 : Arv Z h26 u0 kA .long (4 : Int32) [(.long c2), (.long c1), (.long c0), (.long c3)] _ := Arv.set Ar25 qq25 S25 M25 H25 G25 rfl W26 0 rfl (Nat.le_of_ble_eq_true rfl)
        have N26 := Fr.snoc X26 N24 g0
        have Z26 : n0 ≤ h26.size := Nat.le_trans Z24 (Nat.le_of_eq W26.size.symm)
        have Kp26 := Kp24.wr W26 (Or.inl (List.mem_of_getElem? (i := 0) rfl))
        obtain ⟨cl27, Ar27, qq27, S27, M27, H27, G27⟩ := id V26
        obtain ⟨cl28, Ar28, qq28, S28, M28, H28, G28⟩ := id V26
        have hin28 : ¬ ((3 : Int32) < 0 ∨ cl28.slots.size ≤ ((3 : Int32)).toNatClampNeg) := inb_of S28 ⟨by decide, by decide⟩
        have hat28 : cl28.slots[((3 : Int32)).toNatClampNeg]? = some (.long c3) := H28 3 (by rw [S28]; decide)
        obtain ⟨cl29, Ar29, qq29, S29, M29, H29, G29⟩ := id V26
        have hin29 : ¬ ((2 : Int32) < 0 ∨ cl29.slots.size ≤ ((2 : Int32)).toNatClampNeg) := inb_of S29 ⟨by decide, by decide⟩
        have hat29 : cl29.slots[((2 : Int32)).toNatClampNeg]? = some (.long c0) := H29 2 (by rw [S29]; decide)
        have K30 : ∀ target, Steps p.tables e below (T26.setTop (mkF m 28 #[.val (.ref u0), .val (.int (3 : Int32)), .val (.long c3), .second, .val (.int (2 : Int32))] [(.int (lcmpW c0 c3))])) target → Steps p.tables e below (T18.setTop (mkF m 31 #[.val (.ref u0), .val (.int (2 : Int32)), .val (.long c2), .second, .val (.int (0 : Int32))] [])) target := by
          intro target kt
          show Steps p.tables e below (T18.setTop (mkF m 31 #[.val (.ref u0), .val (.int (2 : Int32)), .val (.long c2), .second, .val (.int (0 : Int32))] [])) _
          refine XS.aloadN X18.here hx rfl (hb hby d3_31) rfl rfl ?_
          show Steps p.tables e below (T18.setTop (mkF m 32 #[.val (.ref u0), .val (.int (2 : Int32)), .val (.long c2), .second, .val (.int (0 : Int32))] [(.ref u0)])) _
          refine XS.iload X18.here hx rfl (hb hby d3_32) rfl ?_
          show Steps p.tables e below (T18.setTop (mkF m 34 #[.val (.ref u0), .val (.int (2 : Int32)), .val (.long c2), .second, .val (.int (0 : Int32))] [(.int (0 : Int32)), (.ref u0)])) _
          refine XS.iconst X18.here hx rfl (hb hby d3_34) ?_
          show Steps p.tables e below (T18.setTop (mkF m 35 #[.val (.ref u0), .val (.int (2 : Int32)), .val (.long c2), .second, .val (.int (0 : Int32))] [(.int (1 : Int32)), (.int (0 : Int32)), (.ref u0)])) _
          refine XS.iadd X18.here hx rfl (hb hby d3_35) rfl ?_
          rw [show ((0 : Int32) + (1 : Int32)) = (1 : Int32) from by decide]
          show Steps p.tables e below (T18.setTop (mkF m 36 #[.val (.ref u0), .val (.int (2 : Int32)), .val (.long c2), .second, .val (.int (0 : Int32))] [(.int (1 : Int32)), (.ref u0)])) _
          refine XS.aloadN X18.here hx rfl (hb hby d3_36) rfl rfl ?_
          show Steps p.tables e below (T18.setTop (mkF m 37 #[.val (.ref u0), .val (.int (2 : Int32)), .val (.long c2), .second, .val (.int (0 : Int32))] [(.ref u0), (.int (1 : Int32)), (.ref u0)])) _
          refine XS.iload X18.here hx rfl (hb hby d3_37) rfl ?_
          show Steps p.tables e below (T18.setTop (mkF m 39 #[.val (.ref u0), .val (.int (2 : Int32)), .val (.long c2), .second, .val (.int (0 : Int32))] [(.int (0 : Int32)), (.ref u0), (.int (1 : Int32)), (.ref u0)])) _
          refine X18.laload hx (j := (0 : Int32)) (v := (.long c1)) (by rw [e18]; exact Ar22.1) (State.isArrayOf_alike hZ.alike Ar22.2.1) Ar22.2.2 hin22 hat22 (g := (mkF m 39 #[.val (.ref u0), .val (.int (2 : Int32)), .val (.long c2), .second, .val (.int (0 : Int32))] [(.int (0 : Int32)), (.ref u0), (.int (1 : Int32)), (.ref u0)])) rfl rfl (hb hby d3_39) _ ?_
          show Steps p.tables e below (T18.setTop (mkF m 40 #[.val (.ref u0), .val (.int (2 : Int32)), .val (.long c2), .second, .val (.int (0 : Int32))] [(.long c1), (.int (1 : Int32)), (.ref u0)])) _
          refine st24 _ ?_
          show Steps p.tables e below (T24.setTop (mkF m 41 #[.val (.ref u0), .val (.int (2 : Int32)), .val (.long c2), .second, .val (.int (0 : Int32))] [])) _
          refine XS.iinc X24.here hx rfl (hb hby d3_41) rfl (l' := #[.val (.ref u0), .val (.int (2 : Int32)), .val (.long c2), .second, .val (.int ((0 : Int32) + (-1 : Int32)))]) rfl ?_
          rw [show ((0 : Int32) + (-1 : Int32)) = (-1 : Int32) from by decide]
          show Steps p.tables e below (T24.setTop (mkF m 44 #[.val (.ref u0), .val (.int (2 : Int32)), .val (.long c2), .second, .val (.int (-1 : Int32))] [])) _
          refine XS.goto X24.here hx rfl (pc0 := 44) (pc' := 17) rfl (hb hby d3_44) (by decide) (by decide) ?_
          show Steps p.tables e below (T24.setTop (mkF m 17 #[.val (.ref u0), .val (.int (2 : Int32)), .val (.long c2), .second, .val (.int (-1 : Int32))] [])) _
          refine XS.iload X24.here hx rfl (hb hby d3_17) rfl ?_
          show Steps p.tables e below (T24.setTop (mkF m 19 #[.val (.ref u0), .val (.int (2 : Int32)), .val (.long c2), .second, .val (.int (-1 : Int32))] [(.int (-1 : Int32))])) _
          refine XS.ifYes X24.here hx rfl (pc0 := 19) (pc' := 47) rfl (hb hby d3_19) rfl ((if0 _ _).trans (tlt (by decide : (-1 : Int32) < (0 : Int32))).1) (by decide) (by decide) ?_
          show Steps p.tables e below (T24.setTop (mkF m 47 #[.val (.ref u0), .val (.int (2 : Int32)), .val (.long c2), .second, .val (.int (-1 : Int32))] [])) _
          refine XS.aloadN X24.here hx rfl (hb hby d3_47) rfl rfl ?_
          show Steps p.tables e below (T24.setTop (mkF m 48 #[.val (.ref u0), .val (.int (2 : Int32)), .val (.long c2), .second, .val (.int (-1 : Int32))] [(.ref u0)])) _
          refine XS.iload X24.here hx rfl (hb hby d3_48) rfl ?_
          show Steps p.tables e below (T24.setTop (mkF m 50 #[.val (.ref u0), .val (.int (2 : Int32)), .val (.long c2), .second, .val (.int (-1 : Int32))] [(.int (-1 : Int32)), (.ref u0)])) _
          refine XS.iconst X24.here hx rfl (hb hby d3_50) ?_
          show Steps p.tables e below (T24.setTop (mkF m 51 #[.val (.ref u0), .val (.int (2 : Int32)), .val (.long c2), .second, .val (.int (-1 : Int32))] [(.int (1 : Int32)), (.int (-1 : Int32)), (.ref u0)])) _
          refine XS.iadd X24.here hx rfl (hb hby d3_51) rfl ?_
          rw [show ((-1 : Int32) + (1 : Int32)) = (0 : Int32) from by decide]
          show Steps p.tables e below (T24.setTop (mkF m 52 #[.val (.ref u0), .val (.int (2 : Int32)), .val (.long c2), .second, .val (.int (-1 : Int32))] [(.int (0 : Int32)), (.ref u0)])) _
          refine XS.lloadN X24.here hx rfl (hb hby d3_52) rfl ?_
          show Steps p.tables e below (T24.setTop (mkF m 53 #[.val (.ref u0), .val (.int (2 : Int32)), .val (.long c2), .second, .val (.int (-1 : Int32))] [(.long c2), (.int (0 : Int32)), (.ref u0)])) _
          refine st26 _ ?_
          show Steps p.tables e below (T26.setTop (mkF m 54 #[.val (.ref u0), .val (.int (2 : Int32)), .val (.long c2), .second, .val (.int (-1 : Int32))] [])) _
          refine XS.iinc X26.here hx rfl (hb hby d3_54) rfl (l' := #[.val (.ref u0), .val (.int ((2 : Int32) + (1 : Int32))), .val (.long c2), .second, .val (.int (-1 : Int32))]) rfl ?_
          rw [show ((2 : Int32) + (1 : Int32)) = (3 : Int32) from by decide]
          show Steps p.tables e below (T26.setTop (mkF m 57 #[.val (.ref u0), .val (.int (3 : Int32)), .val (.long c2), .second, .val (.int (-1 : Int32))] [])) _
          refine XS.goto X26.here hx rfl (pc0 := 57) (pc' := 2) rfl (hb hby d3_57) (by decide) (by decide) ?_
          show Steps p.tables e below (T26.setTop (mkF m 2 #[.val (.ref u0), .val (.int (3 : Int32)), .val (.long c2), .second, .val (.int (-1 : Int32))] [])) _
          refine XS.iloadN X26.here hx rfl (hb hby d3_2) rfl ?_
          show Steps p.tables e below (T26.setTop (mkF m 3 #[.val (.ref u0), .val (.int (3 : Int32)), .val (.long c2), .second, .val (.int (-1 : Int32))] [(.int (3 : Int32))])) _
          refine XS.aloadN X26.here hx rfl (hb hby d3_3) rfl rfl ?_
          show Steps p.tables e below (T26.setTop (mkF m 4 #[.val (.ref u0), .val (.int (3 : Int32)), .val (.long c2), .second, .val (.int (-1 : Int32))] [(.ref u0), (.int (3 : Int32))])) _
          refine X26.arraylength hx (by rw [e26]; exact Ar27.1) (State.isArrayOf_alike hZ.alike Ar27.2.1) (g := (mkF m 4 #[.val (.ref u0), .val (.int (3 : Int32)), .val (.long c2), .second, .val (.int (-1 : Int32))] [(.ref u0), (.int (3 : Int32))])) rfl rfl (hb hby d3_4) _ ?_
          rw [len_of S27 M27]
          show Steps p.tables e below (T26.setTop (mkF m 5 #[.val (.ref u0), .val (.int (3 : Int32)), .val (.long c2), .second, .val (.int (-1 : Int32))] [(.int (4 : Int32)), (.int (3 : Int32))])) _
          refine XS.icmpNo X26.here hx rfl (hb hby d3_5) rfl (tlt (by decide : (3 : Int32) < (4 : Int32))).2.1 ?_
          show Steps p.tables e below (T26.setTop (mkF m 8 #[.val (.ref u0), .val (.int (3 : Int32)), .val (.long c2), .second, .val (.int (-1 : Int32))] [])) _
          refine XS.aloadN X26.here hx rfl (hb hby d3_8) rfl rfl ?_
          show Steps p.tables e below (T26.setTop (mkF m 9 #[.val (.ref u0), .val (.int (3 : Int32)), .val (.long c2), .second, .val (.int (-1 : Int32))] [(.ref u0)])) _
          refine XS.iloadN X26.here hx rfl (hb hby d3_9) rfl ?_
          show Steps p.tables e below (T26.setTop (mkF m 10 #[.val (.ref u0), .val (.int (3 : Int32)), .val (.long c2), .second, .val (.int (-1 : Int32))] [(.int (3 : Int32)), (.ref u0)])) _
          refine X26.laload hx (j := (3 : Int32)) (v := (.long c3)) (by rw [e26]; exact Ar28.1) (State.isArrayOf_alike hZ.alike Ar28.2.1) Ar28.2.2 hin28 hat28 (g := (mkF m 10 #[.val (.ref u0), .val (.int (3 : Int32)), .val (.long c2), .second, .val (.int (-1 : Int32))] [(.int (3 : Int32)), (.ref u0)])) rfl rfl (hb hby d3_10) _ ?_
          show Steps p.tables e below (T26.setTop (mkF m 11 #[.val (.ref u0), .val (.int (3 : Int32)), .val (.long c2), .second, .val (.int (-1 : Int32))] [(.long c3)])) _
          refine XS.lstoreN X26.here hx rfl (hb hby d3_11) rfl (l' := #[.val (.ref u0), .val (.int (3 : Int32)), .val (.long c3), .second, .val (.int (-1 : Int32))]) rfl ?_
          show Steps p.tables e below (T26.setTop (mkF m 12 #[.val (.ref u0), .val (.int (3 : Int32)), .val (.long c3), .second, .val (.int (-1 : Int32))] [])) _
          refine XS.iloadN X26.here hx rfl (hb hby d3_12) rfl ?_
          show Steps p.tables e below (T26.setTop (mkF m 13 #[.val (.ref u0), .val (.int (3 : Int32)), .val (.long c3), .second, .val (.int (-1 : Int32))] [(.int (3 : Int32))])) _
          refine XS.iconst X26.here hx rfl (hb hby d3_13) ?_
          show Steps p.tables e below (T26.setTop (mkF m 14 #[.val (.ref u0), .val (.int (3 : Int32)), .val (.long c3), .second, .val (.int (-1 : Int32))] [(.int (1 : Int32)), (.int (3 : Int32))])) _
          refine XS.isub X26.here hx rfl (hb hby d3_14) rfl ?_
          rw [show ((3 : Int32) - (1 : Int32)) = (2 : Int32) from by decide]
          show Steps p.tables e below (T26.setTop (mkF m 15 #[.val (.ref u0), .val (.int (3 : Int32)), .val (.long c3), .second, .val (.int (-1 : Int32))] [(.int (2 : Int32))])) _
          refine XS.istore X26.here hx rfl (hb hby d3_15) rfl (l' := #[.val (.ref u0), .val (.int (3 : Int32)), .val (.long c3), .second, .val (.int (2 : Int32))]) rfl ?_
          show Steps p.tables e below (T26.setTop (mkF m 17 #[.val (.ref u0), .val (.int (3 : Int32)), .val (.long c3), .second, .val (.int (2 : Int32))] [])) _
          refine XS.iload X26.here hx rfl (hb hby d3_17) rfl ?_
          show Steps p.tables e below (T26.setTop (mkF m 19 #[.val (.ref u0), .val (.int (3 : Int32)), .val (.long c3), .second, .val (.int (2 : Int32))] [(.int (2 : Int32))])) _
          refine XS.ifNo X26.here hx rfl (hb hby d3_19) rfl ((if0 _ _).trans (flt (by decide : ¬ ((2 : Int32) < (0 : Int32)))).1) ?_
          show Steps p.tables e below (T26.setTop (mkF m 22 #[.val (.ref u0), .val (.int (3 : Int32)), .val (.long c3), .second, .val (.int (2 : Int32))] [])) _
          refine XS.aloadN X26.here hx rfl (hb hby d3_22) rfl rfl ?_
          show Steps p.tables e below (T26.setTop (mkF m 23 #[.val (.ref u0), .val (.int (3 : Int32)), .val (.long c3), .second, .val (.int (2 : Int32))] [(.ref u0)])) _
          refine XS.iload X26.here hx rfl (hb hby d3_23) rfl ?_
          show Steps p.tables e below (T26.setTop (mkF m 25 #[.val (.ref u0), .val (.int (3 : Int32)), .val (.long c3), .second, .val (.int (2 : Int32))] [(.int (2 : Int32)), (.ref u0)])) _
          refine X26.laload hx (j := (2 : Int32)) (v := (.long c0)) (by rw [e26]; exact Ar29.1) (State.isArrayOf_alike hZ.alike Ar29.2.1) Ar29.2.2 hin29 hat29 (g := (mkF m 25 #[.val (.ref u0), .val (.int (3 : Int32)), .val (.long c3), .second, .val (.int (2 : Int32))] [(.int (2 : Int32)), (.ref u0)])) rfl rfl (hb hby d3_25) _ ?_
          show Steps p.tables e below (T26.setTop (mkF m 26 #[.val (.ref u0), .val (.int (3 : Int32)), .val (.long c3), .second, .val (.int (2 : Int32))] [(.long c0)])) _
          refine XS.lloadN X26.here hx rfl (hb hby d3_26) rfl ?_
          show Steps p.tables e below (T26.setTop (mkF m 27 #[.val (.ref u0), .val (.int (3 : Int32)), .val (.long c3), .second, .val (.int (2 : Int32))] [(.long c3), (.long c0)])) _
          refine XS.lcmp X26.here hx rfl (hb hby d3_27) rfl ?_
          exact kt
        refine Done.of ?_ K30
        by_cases hc28_31 : c0 < c3
        · have K : ∀ target, Steps p.tables e below (T26.setTop (mkF m 31 #[.val (.ref u0), .val (.int (3 : Int32)), .val (.long c3), .second, .val (.int (2 : Int32))] [])) target → Steps p.tables e below (T26.setTop (mkF m 28 #[.val (.ref u0), .val (.int (3 : Int32)), .val (.long c3), .second, .val (.int (2 : Int32))] [(.int (lcmpW c0 c3))])) target := by
            intro target kt
            refine XS.ifNo X26.here hx rfl (hb hby d3_28) rfl ((if0 _ _).trans (tlt ((lw_lt c0 c3).mpr hc28_31)).2.1) ?_
            exact kt
          refine Done.of ?_ K
          obtain ⟨cl32, Ar32, qq32, S32, M32, H32, G32⟩ := id V26
          have hin32 : ¬ ((2 : Int32) < 0 ∨ cl32.slots.size ≤ ((2 : Int32)).toNatClampNeg) := inb_of S32 ⟨by decide, by decide⟩
          have hat32 : cl32.slots[((2 : Int32)).toNatClampNeg]? = some (.long c0) := H32 2 (by rw [S32]; decide)
          obtain ⟨cl33, Ar33, qq33, S33, M33, H33, G33⟩ := id V26
          have hin33 : ¬ ((3 : Int32) < 0 ∨ cl33.slots.size ≤ ((3 : Int32)).toNatClampNeg) := inb_of S33 ⟨by decide, by decide⟩
          obtain ⟨T34, h34, X34, e34, W34, st34⟩ := stJ X26 hx hZ e26 Ar33 (j := (3 : Int32)) hin33 (g := (mkF m 40 #[.val (.ref u0), .val (.int (3 : Int32)), .val (.long c3), .second, .val (.int (2 : Int32))] [(.long c0), (.int (3 : Int32)), (.ref u0)])) rfl rfl (hb hby d3_40)
          have V34 : Arv Z h34 u0 kA .long (4 : Int32) [(.long c2), (.long c1), (.long c0), (.long c0)] _ := Arv.set Ar33 qq33 S33 M33 H33 G33 rfl W34 3 rfl (Nat.le_of_ble_eq_true rfl)
          have N34 := Fr.snoc X34 N26 g0
          have Z34 : n0 ≤ h34.size := Nat.le_trans Z26 (Nat.le_of_eq W34.size.symm)
          have Kp34 := Kp26.wr W34 (Or.inl (List.mem_of_getElem? (i := 0) rfl))
          obtain ⟨cl35, Ar35, qq35, S35, M35, H35, G35⟩ := id V34
          have hin35 : ¬ ((1 : Int32) < 0 ∨ cl35.slots.size ≤ ((1 : Int32)).toNatClampNeg) := inb_of S35 ⟨by decide, by decide⟩
          have hat35 : cl35.slots[((1 : Int32)).toNatClampNeg]? = some (.long c1) := H35 1 (by rw [S35]; decide)
          have K36 : ∀ target, Steps p.tables e below (T34.setTop (mkF m 28 #[.val (.ref u0), .val (.int (3 : Int32)), .val (.long c3), .second, .val (.int (1 : Int32))] [(.int (lcmpW c1 c3))])) target → Steps p.tables e below (T26.setTop (mkF m 31 #[.val (.ref u0), .val (.int (3 : Int32)), .val (.long c3), .second, .val (.int (2 : Int32))] [])) target := by
            intro target kt
            show Steps p.tables e below (T26.setTop (mkF m 31 #[.val (.ref u0), .val (.int (3 : Int32)), .val (.long c3), .second, .val (.int (2 : Int32))] [])) _
            refine XS.aloadN X26.here hx rfl (hb hby d3_31) rfl rfl ?_
            show Steps p.tables e below (T26.setTop (mkF m 32 #[.val (.ref u0), .val (.int (3 : Int32)), .val (.long c3), .second, .val (.int (2 : Int32))] [(.ref u0)])) _
            refine XS.iload X26.here hx rfl (hb hby d3_32) rfl ?_
            show Steps p.tables e below (T26.setTop (mkF m 34 #[.val (.ref u0), .val (.int (3 : Int32)), .val (.long c3), .second, .val (.int (2 : Int32))] [(.int (2 : Int32)), (.ref u0)])) _
            refine XS.iconst X26.here hx rfl (hb hby d3_34) ?_
            show Steps p.tables e below (T26.setTop (mkF m 35 #[.val (.ref u0), .val (.int (3 : Int32)), .val (.long c3), .second, .val (.int (2 : Int32))] [(.int (1 : Int32)), (.int (2 : Int32)), (.ref u0)])) _
            refine XS.iadd X26.here hx rfl (hb hby d3_35) rfl ?_
            rw [show ((2 : Int32) + (1 : Int32)) = (3 : Int32) from by decide]
            show Steps p.tables e below (T26.setTop (mkF m 36 #[.val (.ref u0), .val (.int (3 : Int32)), .val (.long c3), .second, .val (.int (2 : Int32))] [(.int (3 : Int32)), (.ref u0)])) _
            refine XS.aloadN X26.here hx rfl (hb hby d3_36) rfl rfl ?_
            show Steps p.tables e below (T26.setTop (mkF m 37 #[.val (.ref u0), .val (.int (3 : Int32)), .val (.long c3), .second, .val (.int (2 : Int32))] [(.ref u0), (.int (3 : Int32)), (.ref u0)])) _
            refine XS.iload X26.here hx rfl (hb hby d3_37) rfl ?_
            show Steps p.tables e below (T26.setTop (mkF m 39 #[.val (.ref u0), .val (.int (3 : Int32)), .val (.long c3), .second, .val (.int (2 : Int32))] [(.int (2 : Int32)), (.ref u0), (.int (3 : Int32)), (.ref u0)])) _
            refine X26.laload hx (j := (2 : Int32)) (v := (.long c0)) (by rw [e26]; exact Ar32.1) (State.isArrayOf_alike hZ.alike Ar32.2.1) Ar32.2.2 hin32 hat32 (g := (mkF m 39 #[.val (.ref u0), .val (.int (3 : Int32)), .val (.long c3), .second, .val (.int (2 : Int32))] [(.int (2 : Int32)), (.ref u0), (.int (3 : Int32)), (.ref u0)])) rfl rfl (hb hby d3_39) _ ?_
            show Steps p.tables e below (T26.setTop (mkF m 40 #[.val (.ref u0), .val (.int (3 : Int32)), .val (.long c3), .second, .val (.int (2 : Int32))] [(.long c0), (.int (3 : Int32)), (.ref u0)])) _
            refine st34 _ ?_
            show Steps p.tables e below (T34.setTop (mkF m 41 #[.val (.ref u0), .val (.int (3 : Int32)), .val (.long c3), .second, .val (.int (2 : Int32))] [])) _
            refine XS.iinc X34.here hx rfl (hb hby d3_41) rfl (l' := #[.val (.ref u0), .val (.int (3 : Int32)), .val (.long c3), .second, .val (.int ((2 : Int32) + (-1 : Int32)))]) rfl ?_
            rw [show ((2 : Int32) + (-1 : Int32)) = (1 : Int32) from by decide]
            show Steps p.tables e below (T34.setTop (mkF m 44 #[.val (.ref u0), .val (.int (3 : Int32)), .val (.long c3), .second, .val (.int (1 : Int32))] [])) _
            refine XS.goto X34.here hx rfl (pc0 := 44) (pc' := 17) rfl (hb hby d3_44) (by decide) (by decide) ?_
            show Steps p.tables e below (T34.setTop (mkF m 17 #[.val (.ref u0), .val (.int (3 : Int32)), .val (.long c3), .second, .val (.int (1 : Int32))] [])) _
            refine XS.iload X34.here hx rfl (hb hby d3_17) rfl ?_
            show Steps p.tables e below (T34.setTop (mkF m 19 #[.val (.ref u0), .val (.int (3 : Int32)), .val (.long c3), .second, .val (.int (1 : Int32))] [(.int (1 : Int32))])) _
            refine XS.ifNo X34.here hx rfl (hb hby d3_19) rfl ((if0 _ _).trans (flt (by decide : ¬ ((1 : Int32) < (0 : Int32)))).1) ?_
            show Steps p.tables e below (T34.setTop (mkF m 22 #[.val (.ref u0), .val (.int (3 : Int32)), .val (.long c3), .second, .val (.int (1 : Int32))] [])) _
            refine XS.aloadN X34.here hx rfl (hb hby d3_22) rfl rfl ?_
            show Steps p.tables e below (T34.setTop (mkF m 23 #[.val (.ref u0), .val (.int (3 : Int32)), .val (.long c3), .second, .val (.int (1 : Int32))] [(.ref u0)])) _
            refine XS.iload X34.here hx rfl (hb hby d3_23) rfl ?_
            show Steps p.tables e below (T34.setTop (mkF m 25 #[.val (.ref u0), .val (.int (3 : Int32)), .val (.long c3), .second, .val (.int (1 : Int32))] [(.int (1 : Int32)), (.ref u0)])) _
            refine X34.laload hx (j := (1 : Int32)) (v := (.long c1)) (by rw [e34]; exact Ar35.1) (State.isArrayOf_alike hZ.alike Ar35.2.1) Ar35.2.2 hin35 hat35 (g := (mkF m 25 #[.val (.ref u0), .val (.int (3 : Int32)), .val (.long c3), .second, .val (.int (1 : Int32))] [(.int (1 : Int32)), (.ref u0)])) rfl rfl (hb hby d3_25) _ ?_
            show Steps p.tables e below (T34.setTop (mkF m 26 #[.val (.ref u0), .val (.int (3 : Int32)), .val (.long c3), .second, .val (.int (1 : Int32))] [(.long c1)])) _
            refine XS.lloadN X34.here hx rfl (hb hby d3_26) rfl ?_
            show Steps p.tables e below (T34.setTop (mkF m 27 #[.val (.ref u0), .val (.int (3 : Int32)), .val (.long c3), .second, .val (.int (1 : Int32))] [(.long c3), (.long c1)])) _
            refine XS.lcmp X34.here hx rfl (hb hby d3_27) rfl ?_
            exact kt
          refine Done.of ?_ K36
          by_cases hc28_37 : c1 < c3
          · have K : ∀ target, Steps p.tables e below (T34.setTop (mkF m 31 #[.val (.ref u0), .val (.int (3 : Int32)), .val (.long c3), .second, .val (.int (1 : Int32))] [])) target → Steps p.tables e below (T34.setTop (mkF m 28 #[.val (.ref u0), .val (.int (3 : Int32)), .val (.long c3), .second, .val (.int (1 : Int32))] [(.int (lcmpW c1 c3))])) target := by
              intro target kt
              refine XS.ifNo X34.here hx rfl (hb hby d3_28) rfl ((if0 _ _).trans (tlt ((lw_lt c1 c3).mpr hc28_37)).2.1) ?_
              exact kt
            refine Done.of ?_ K
            obtain ⟨cl38, Ar38, qq38, S38, M38, H38, G38⟩ := id V34
            have hin38 : ¬ ((1 : Int32) < 0 ∨ cl38.slots.size ≤ ((1 : Int32)).toNatClampNeg) := inb_of S38 ⟨by decide, by decide⟩
            have hat38 : cl38.slots[((1 : Int32)).toNatClampNeg]? = some (.long c1) := H38 1 (by rw [S38]; decide)
            obtain ⟨cl39, Ar39, qq39, S39, M39, H39, G39⟩ := id V34
            have hin39 : ¬ ((2 : Int32) < 0 ∨ cl39.slots.size ≤ ((2 : Int32)).toNatClampNeg) := inb_of S39 ⟨by decide, by decide⟩
            obtain ⟨T40, h40, X40, e40, W40, st40⟩ := stJ X34 hx hZ e34 Ar39 (j := (2 : Int32)) hin39 (g := (mkF m 40 #[.val (.ref u0), .val (.int (3 : Int32)), .val (.long c3), .second, .val (.int (1 : Int32))] [(.long c1), (.int (2 : Int32)), (.ref u0)])) rfl rfl (hb hby d3_40)
            have V40 : Arv Z h40 u0 kA .long (4 : Int32) [(.long c2), (.long c1), (.long c1), (.long c0)] _ := Arv.set Ar39 qq39 S39 M39 H39 G39 rfl W40 2 rfl (Nat.le_of_ble_eq_true rfl)
            have N40 := Fr.snoc X40 N34 g0
            have Z40 : n0 ≤ h40.size := Nat.le_trans Z34 (Nat.le_of_eq W40.size.symm)
            have Kp40 := Kp34.wr W40 (Or.inl (List.mem_of_getElem? (i := 0) rfl))
            obtain ⟨cl41, Ar41, qq41, S41, M41, H41, G41⟩ := id V40
            have hin41 : ¬ ((0 : Int32) < 0 ∨ cl41.slots.size ≤ ((0 : Int32)).toNatClampNeg) := inb_of S41 ⟨by decide, by decide⟩
            have hat41 : cl41.slots[((0 : Int32)).toNatClampNeg]? = some (.long c2) := H41 0 (by rw [S41]; decide)
            have K42 : ∀ target, Steps p.tables e below (T40.setTop (mkF m 28 #[.val (.ref u0), .val (.int (3 : Int32)), .val (.long c3), .second, .val (.int (0 : Int32))] [(.int (lcmpW c2 c3))])) target → Steps p.tables e below (T34.setTop (mkF m 31 #[.val (.ref u0), .val (.int (3 : Int32)), .val (.long c3), .second, .val (.int (1 : Int32))] [])) target := by
              intro target kt
              show Steps p.tables e below (T34.setTop (mkF m 31 #[.val (.ref u0), .val (.int (3 : Int32)), .val (.long c3), .second, .val (.int (1 : Int32))] [])) _
              refine XS.aloadN X34.here hx rfl (hb hby d3_31) rfl rfl ?_
              show Steps p.tables e below (T34.setTop (mkF m 32 #[.val (.ref u0), .val (.int (3 : Int32)), .val (.long c3), .second, .val (.int (1 : Int32))] [(.ref u0)])) _
              refine XS.iload X34.here hx rfl (hb hby d3_32) rfl ?_
              show Steps p.tables e below (T34.setTop (mkF m 34 #[.val (.ref u0), .val (.int (3 : Int32)), .val (.long c3), .second, .val (.int (1 : Int32))] [(.int (1 : Int32)), (.ref u0)])) _
              refine XS.iconst X34.here hx rfl (hb hby d3_34) ?_
              show Steps p.tables e below (T34.setTop (mkF m 35 #[.val (.ref u0), .val (.int (3 : Int32)), .val (.long c3), .second, .val (.int (1 : Int32))] [(.int (1 : Int32)), (.int (1 : Int32)), (.ref u0)])) _
              refine XS.iadd X34.here hx rfl (hb hby d3_35) rfl ?_
              rw [show ((1 : Int32) + (1 : Int32)) = (2 : Int32) from by decide]
              show Steps p.tables e below (T34.setTop (mkF m 36 #[.val (.ref u0), .val (.int (3 : Int32)), .val (.long c3), .second, .val (.int (1 : Int32))] [(.int (2 : Int32)), (.ref u0)])) _
              refine XS.aloadN X34.here hx rfl (hb hby d3_36) rfl rfl ?_
              show Steps p.tables e below (T34.setTop (mkF m 37 #[.val (.ref u0), .val (.int (3 : Int32)), .val (.long c3), .second, .val (.int (1 : Int32))] [(.ref u0), (.int (2 : Int32)), (.ref u0)])) _
              refine XS.iload X34.here hx rfl (hb hby d3_37) rfl ?_
              show Steps p.tables e below (T34.setTop (mkF m 39 #[.val (.ref u0), .val (.int (3 : Int32)), .val (.long c3), .second, .val (.int (1 : Int32))] [(.int (1 : Int32)), (.ref u0), (.int (2 : Int32)), (.ref u0)])) _
              refine X34.laload hx (j := (1 : Int32)) (v := (.long c1)) (by rw [e34]; exact Ar38.1) (State.isArrayOf_alike hZ.alike Ar38.2.1) Ar38.2.2 hin38 hat38 (g := (mkF m 39 #[.val (.ref u0), .val (.int (3 : Int32)), .val (.long c3), .second, .val (.int (1 : Int32))] [(.int (1 : Int32)), (.ref u0), (.int (2 : Int32)), (.ref u0)])) rfl rfl (hb hby d3_39) _ ?_
              show Steps p.tables e below (T34.setTop (mkF m 40 #[.val (.ref u0), .val (.int (3 : Int32)), .val (.long c3), .second, .val (.int (1 : Int32))] [(.long c1), (.int (2 : Int32)), (.ref u0)])) _
              refine st40 _ ?_
              show Steps p.tables e below (T40.setTop (mkF m 41 #[.val (.ref u0), .val (.int (3 : Int32)), .val (.long c3), .second, .val (.int (1 : Int32))] [])) _
              refine XS.iinc X40.here hx rfl (hb hby d3_41) rfl (l' := #[.val (.ref u0), .val (.int (3 : Int32)), .val (.long c3), .second, .val (.int ((1 : Int32) + (-1 : Int32)))]) rfl ?_
              rw [show ((1 : Int32) + (-1 : Int32)) = (0 : Int32) from by decide]
              show Steps p.tables e below (T40.setTop (mkF m 44 #[.val (.ref u0), .val (.int (3 : Int32)), .val (.long c3), .second, .val (.int (0 : Int32))] [])) _
              refine XS.goto X40.here hx rfl (pc0 := 44) (pc' := 17) rfl (hb hby d3_44) (by decide) (by decide) ?_
              show Steps p.tables e below (T40.setTop (mkF m 17 #[.val (.ref u0), .val (.int (3 : Int32)), .val (.long c3), .second, .val (.int (0 : Int32))] [])) _
              refine XS.iload X40.here hx rfl (hb hby d3_17) rfl ?_
              show Steps p.tables e below (T40.setTop (mkF m 19 #[.val (.ref u0), .val (.int (3 : Int32)), .val (.long c3), .second, .val (.int (0 : Int32))] [(.int (0 : Int32))])) _
              refine XS.ifNo X40.here hx rfl (hb hby d3_19) rfl ((if0 _ _).trans (flt (by decide : ¬ ((0 : Int32) < (0 : Int32)))).1) ?_
              show Steps p.tables e below (T40.setTop (mkF m 22 #[.val (.ref u0), .val (.int (3 : Int32)), .val (.long c3), .second, .val (.int (0 : Int32))] [])) _
              refine XS.aloadN X40.here hx rfl (hb hby d3_22) rfl rfl ?_
              show Steps p.tables e below (T40.setTop (mkF m 23 #[.val (.ref u0), .val (.int (3 : Int32)), .val (.long c3), .second, .val (.int (0 : Int32))] [(.ref u0)])) _
              refine XS.iload X40.here hx rfl (hb hby d3_23) rfl ?_
              show Steps p.tables e below (T40.setTop (mkF m 25 #[.val (.ref u0), .val (.int (3 : Int32)), .val (.long c3), .second, .val (.int (0 : Int32))] [(.int (0 : Int32)), (.ref u0)])) _
              refine X40.laload hx (j := (0 : Int32)) (v := (.long c2)) (by rw [e40]; exact Ar41.1) (State.isArrayOf_alike hZ.alike Ar41.2.1) Ar41.2.2 hin41 hat41 (g := (mkF m 25 #[.val (.ref u0), .val (.int (3 : Int32)), .val (.long c3), .second, .val (.int (0 : Int32))] [(.int (0 : Int32)), (.ref u0)])) rfl rfl (hb hby d3_25) _ ?_
              show Steps p.tables e below (T40.setTop (mkF m 26 #[.val (.ref u0), .val (.int (3 : Int32)), .val (.long c3), .second, .val (.int (0 : Int32))] [(.long c2)])) _
              refine XS.lloadN X40.here hx rfl (hb hby d3_26) rfl ?_
              show Steps p.tables e below (T40.setTop (mkF m 27 #[.val (.ref u0), .val (.int (3 : Int32)), .val (.long c3), .second, .val (.int (0 : Int32))] [(.long c3), (.long c2)])) _
              refine XS.lcmp X40.here hx rfl (hb hby d3_27) rfl ?_
              exact kt
            refine Done.of ?_ K42
            by_cases hc28_43 : c2 < c3
            · have K : ∀ target, Steps p.tables e below (T40.setTop (mkF m 31 #[.val (.ref u0), .val (.int (3 : Int32)), .val (.long c3), .second, .val (.int (0 : Int32))] [])) target → Steps p.tables e below (T40.setTop (mkF m 28 #[.val (.ref u0), .val (.int (3 : Int32)), .val (.long c3), .second, .val (.int (0 : Int32))] [(.int (lcmpW c2 c3))])) target := by
                intro target kt
                refine XS.ifNo X40.here hx rfl (hb hby d3_28) rfl ((if0 _ _).trans (tlt ((lw_lt c2 c3).mpr hc28_43)).2.1) ?_
                exact kt
              refine Done.of ?_ K
              obtain ⟨cl44, Ar44, qq44, S44, M44, H44, G44⟩ := id V40
              have hin44 : ¬ ((0 : Int32) < 0 ∨ cl44.slots.size ≤ ((0 : Int32)).toNatClampNeg) := inb_of S44 ⟨by decide, by decide⟩
              have hat44 : cl44.slots[((0 : Int32)).toNatClampNeg]? = some (.long c2) := H44 0 (by rw [S44]; decide)
              obtain ⟨cl45, Ar45, qq45, S45, M45, H45, G45⟩ := id V40
              have hin45 : ¬ ((1 : Int32) < 0 ∨ cl45.slots.size ≤ ((1 : Int32)).toNatClampNeg) := inb_of S45 ⟨by decide, by decide⟩
              obtain ⟨T46, h46, X46, e46, W46, st46⟩ := stJ X40 hx hZ e40 Ar45 (j := (1 : Int32)) hin45 (g := (mkF m 40 #[.val (.ref u0), .val (.int (3 : Int32)), .val (.long c3), .second, .val (.int (0 : Int32))] [(.long c2), (.int (1 : Int32)), (.ref u0)])) rfl rfl (hb hby d3_40)
              have V46 : Arv Z h46 u0 kA .long (4 : Int32) [(.long c2), (.long c2), (.long c1), (.long c0)] _ := Arv.set Ar45 qq45 S45 M45 H45 G45 rfl W46 1 rfl (Nat.le_of_ble_eq_true rfl)
              have N46 := Fr.snoc X46 N40 g0
              have Z46 : n0 ≤ h46.size := Nat.le_trans Z40 (Nat.le_of_eq W46.size.symm)
              have Kp46 := Kp40.wr W46 (Or.inl (List.mem_of_getElem? (i := 0) rfl))
              obtain ⟨cl47, Ar47, qq47, S47, M47, H47, G47⟩ := id V46
              have hin47 : ¬ ((0 : Int32) < 0 ∨ cl47.slots.size ≤ ((0 : Int32)).toNatClampNeg) := inb_of S47 ⟨by decide, by decide⟩
              obtain ⟨T48, h48, X48, e48, W48, st48⟩ := stJ X46 hx hZ e46 Ar47 (j := (0 : Int32)) hin47 (g := (mkF m 53 #[.val (.ref u0), .val (.int (3 : Int32)), .val (.long c3), .second, .val (.int (-1 : Int32))] [(.long c3), (.int (0 : Int32)), (.ref u0)])) rfl rfl (hb hby d3_53)
              have V48 : Arv Z h48 u0 kA .long (4 : Int32) [(.long c3), (.long c2), (.long c1), (.long c0)] _ := Arv.set Ar47 qq47 S47 M47 H47 G47 rfl W48 0 rfl (Nat.le_of_ble_eq_true rfl)
              have N48 := Fr.snoc X48 N46 g0
              have Z48 : n0 ≤ h48.size := Nat.le_trans Z46 (Nat.le_of_eq W48.size.symm)
              have Kp48 := Kp46.wr W48 (Or.inl (List.mem_of_getElem? (i := 0) rfl))
              obtain ⟨cl49, Ar49, qq49, S49, M49, H49, G49⟩ := id V48
              obtain ⟨fs, hr, hrun, hended, hW, hsame⟩ := X48.leave (v := none) (fun _ => rfl)
              refine ⟨_, _, ?_, hrun, hended, _, _, rfl, ?_, ⟨_, rfl⟩, hW, hsame.mono (by decide) (by decide)⟩
              · show Steps p.tables e below (T40.setTop (mkF m 31 #[.val (.ref u0), .val (.int (3 : Int32)), .val (.long c3), .second, .val (.int (0 : Int32))] [])) _
                refine XS.aloadN X40.here hx rfl (hb hby d3_31) rfl rfl ?_
                show Steps p.tables e below (T40.setTop (mkF m 32 #[.val (.ref u0), .val (.int (3 : Int32)), .val (.long c3), .second, .val (.int (0 : Int32))] [(.ref u0)])) _
                refine XS.iload X40.here hx rfl (hb hby d3_32) rfl ?_
                show Steps p.tables e below (T40.setTop (mkF m 34 #[.val (.ref u0), .val (.int (3 : Int32)), .val (.long c3), .second, .val (.int (0 : Int32))] [(.int (0 : Int32)), (.ref u0)])) _
                refine XS.iconst X40.here hx rfl (hb hby d3_34) ?_
                show Steps p.tables e below (T40.setTop (mkF m 35 #[.val (.ref u0), .val (.int (3 : Int32)), .val (.long c3), .second, .val (.int (0 : Int32))] [(.int (1 : Int32)), (.int (0 : Int32)), (.ref u0)])) _
                refine XS.iadd X40.here hx rfl (hb hby d3_35) rfl ?_
                rw [show ((0 : Int32) + (1 : Int32)) = (1 : Int32) from by decide]
                show Steps p.tables e below (T40.setTop (mkF m 36 #[.val (.ref u0), .val (.int (3 : Int32)), .val (.long c3), .second, .val (.int (0 : Int32))] [(.int (1 : Int32)), (.ref u0)])) _
                refine XS.aloadN X40.here hx rfl (hb hby d3_36) rfl rfl ?_
                show Steps p.tables e below (T40.setTop (mkF m 37 #[.val (.ref u0), .val (.int (3 : Int32)), .val (.long c3), .second, .val (.int (0 : Int32))] [(.ref u0), (.int (1 : Int32)), (.ref u0)])) _
                refine XS.iload X40.here hx rfl (hb hby d3_37) rfl ?_
                show Steps p.tables e below (T40.setTop (mkF m 39 #[.val (.ref u0), .val (.int (3 : Int32)), .val (.long c3), .second, .val (.int (0 : Int32))] [(.int (0 : Int32)), (.ref u0), (.int (1 : Int32)), (.ref u0)])) _
                refine X40.laload hx (j := (0 : Int32)) (v := (.long c2)) (by rw [e40]; exact Ar44.1) (State.isArrayOf_alike hZ.alike Ar44.2.1) Ar44.2.2 hin44 hat44 (g := (mkF m 39 #[.val (.ref u0), .val (.int (3 : Int32)), .val (.long c3), .second, .val (.int (0 : Int32))] [(.int (0 : Int32)), (.ref u0), (.int (1 : Int32)), (.ref u0)])) rfl rfl (hb hby d3_39) _ ?_
                show Steps p.tables e below (T40.setTop (mkF m 40 #[.val (.ref u0), .val (.int (3 : Int32)), .val (.long c3), .second, .val (.int (0 : Int32))] [(.long c2), (.int (1 : Int32)), (.ref u0)])) _
                refine st46 _ ?_
                show Steps p.tables e below (T46.setTop (mkF m 41 #[.val (.ref u0), .val (.int (3 : Int32)), .val (.long c3), .second, .val (.int (0 : Int32))] [])) _
                refine XS.iinc X46.here hx rfl (hb hby d3_41) rfl (l' := #[.val (.ref u0), .val (.int (3 : Int32)), .val (.long c3), .second, .val (.int ((0 : Int32) + (-1 : Int32)))]) rfl ?_
                rw [show ((0 : Int32) + (-1 : Int32)) = (-1 : Int32) from by decide]
                show Steps p.tables e below (T46.setTop (mkF m 44 #[.val (.ref u0), .val (.int (3 : Int32)), .val (.long c3), .second, .val (.int (-1 : Int32))] [])) _
                refine XS.goto X46.here hx rfl (pc0 := 44) (pc' := 17) rfl (hb hby d3_44) (by decide) (by decide) ?_
                show Steps p.tables e below (T46.setTop (mkF m 17 #[.val (.ref u0), .val (.int (3 : Int32)), .val (.long c3), .second, .val (.int (-1 : Int32))] [])) _
                refine XS.iload X46.here hx rfl (hb hby d3_17) rfl ?_
                show Steps p.tables e below (T46.setTop (mkF m 19 #[.val (.ref u0), .val (.int (3 : Int32)), .val (.long c3), .second, .val (.int (-1 : Int32))] [(.int (-1 : Int32))])) _
                refine XS.ifYes X46.here hx rfl (pc0 := 19) (pc' := 47) rfl (hb hby d3_19) rfl ((if0 _ _).trans (tlt (by decide : (-1 : Int32) < (0 : Int32))).1) (by decide) (by decide) ?_
                show Steps p.tables e below (T46.setTop (mkF m 47 #[.val (.ref u0), .val (.int (3 : Int32)), .val (.long c3), .second, .val (.int (-1 : Int32))] [])) _
                refine XS.aloadN X46.here hx rfl (hb hby d3_47) rfl rfl ?_
                show Steps p.tables e below (T46.setTop (mkF m 48 #[.val (.ref u0), .val (.int (3 : Int32)), .val (.long c3), .second, .val (.int (-1 : Int32))] [(.ref u0)])) _
                refine XS.iload X46.here hx rfl (hb hby d3_48) rfl ?_
                show Steps p.tables e below (T46.setTop (mkF m 50 #[.val (.ref u0), .val (.int (3 : Int32)), .val (.long c3), .second, .val (.int (-1 : Int32))] [(.int (-1 : Int32)), (.ref u0)])) _
                refine XS.iconst X46.here hx rfl (hb hby d3_50) ?_
                show Steps p.tables e below (T46.setTop (mkF m 51 #[.val (.ref u0), .val (.int (3 : Int32)), .val (.long c3), .second, .val (.int (-1 : Int32))] [(.int (1 : Int32)), (.int (-1 : Int32)), (.ref u0)])) _
                refine XS.iadd X46.here hx rfl (hb hby d3_51) rfl ?_
                rw [show ((-1 : Int32) + (1 : Int32)) = (0 : Int32) from by decide]
                show Steps p.tables e below (T46.setTop (mkF m 52 #[.val (.ref u0), .val (.int (3 : Int32)), .val (.long c3), .second, .val (.int (-1 : Int32))] [(.int (0 : Int32)), (.ref u0)])) _
                refine XS.lloadN X46.here hx rfl (hb hby d3_52) rfl ?_
                show Steps p.tables e below (T46.setTop (mkF m 53 #[.val (.ref u0), .val (.int (3 : Int32)), .val (.long c3), .second, .val (.int (-1 : Int32))] [(.long c3), (.int (0 : Int32)), (.ref u0)])) _
                refine st48 _ ?_
                show Steps p.tables e below (T48.setTop (mkF m 54 #[.val (.ref u0), .val (.int (3 : Int32)), .val (.long c3), .second, .val (.int (-1 : Int32))] [])) _
                refine XS.iinc X48.here hx rfl (hb hby d3_54) rfl (l' := #[.val (.ref u0), .val (.int ((3 : Int32) + (1 : Int32))), .val (.long c3), .second, .val (.int (-1 : Int32))]) rfl ?_
                rw [show ((3 : Int32) + (1 : Int32)) = (4 : Int32) from by decide]
                show Steps p.tables e below (T48.setTop (mkF m 57 #[.val (.ref u0), .val (.int (4 : Int32)), .val (.long c3), .second, .val (.int (-1 : Int32))] [])) _
                refine XS.goto X48.here hx rfl (pc0 := 57) (pc' := 2) rfl (hb hby d3_57) (by decide) (by decide) ?_
                show Steps p.tables e below (T48.setTop (mkF m 2 #[.val (.ref u0), .val (.int (4 : Int32)), .val (.long c3), .second, .val (.int (-1 : Int32))] [])) _
                refine XS.iloadN X48.here hx rfl (hb hby d3_2) rfl ?_
                show Steps p.tables e below (T48.setTop (mkF m 3 #[.val (.ref u0), .val (.int (4 : Int32)), .val (.long c3), .second, .val (.int (-1 : Int32))] [(.int (4 : Int32))])) _
                refine XS.aloadN X48.here hx rfl (hb hby d3_3) rfl rfl ?_
                show Steps p.tables e below (T48.setTop (mkF m 4 #[.val (.ref u0), .val (.int (4 : Int32)), .val (.long c3), .second, .val (.int (-1 : Int32))] [(.ref u0), (.int (4 : Int32))])) _
                refine X48.arraylength hx (by rw [e48]; exact Ar49.1) (State.isArrayOf_alike hZ.alike Ar49.2.1) (g := (mkF m 4 #[.val (.ref u0), .val (.int (4 : Int32)), .val (.long c3), .second, .val (.int (-1 : Int32))] [(.ref u0), (.int (4 : Int32))])) rfl rfl (hb hby d3_4) _ ?_
                rw [len_of S49 M49]
                show Steps p.tables e below (T48.setTop (mkF m 5 #[.val (.ref u0), .val (.int (4 : Int32)), .val (.long c3), .second, .val (.int (-1 : Int32))] [(.int (4 : Int32)), (.int (4 : Int32))])) _
                refine XS.icmpYes X48.here hx rfl (pc0 := 5) (pc' := 60) rfl (hb hby d3_5) rfl (flt (by decide : ¬ ((4 : Int32) < (4 : Int32)))).2.1 (by decide) (by decide) ?_
                show Steps p.tables e below (T48.setTop (mkF m 60 #[.val (.ref u0), .val (.int (4 : Int32)), .val (.long c3), .second, .val (.int (-1 : Int32))] [])) _
                exact X48.returnOut hx Bd.returns (hb hby d3_60) hr
              · show Q3n4 Z u0 kA dv c0 c1 c2 c3 h0 n0 _ T48.heap _
                rw [e48]
                have k0 := Int64.lt_iff_toInt_lt.mp hc28_5
                have k1 := Int64.lt_iff_toInt_lt.mp hc28_15
                have k2 := Int64.lt_iff_toInt_lt.mp hc28_21
                have k3 := Int64.lt_iff_toInt_lt.mp hc28_31
                have k4 := Int64.lt_iff_toInt_lt.mp hc28_37
                have k5 := Int64.lt_iff_toInt_lt.mp hc28_43
                have r0 : (own_X (own_X c0 c1) (own_X c2 c3)) = c3 := by
                  apply Int64.toInt_inj.mp
                  simp only [own_xi, own_ni]
                  omega
                have r1 : (own_X (own_X (own_N c0 c1) (own_N c2 c3)) (own_N (own_X c0 c1) (own_X c2 c3))) = c2 := by
                  apply Int64.toInt_inj.mp
                  simp only [own_xi, own_ni]
                  omega
                have r2 : (own_N (own_X (own_N c0 c1) (own_N c2 c3)) (own_N (own_X c0 c1) (own_X c2 c3))) = c1 := by
                  apply Int64.toInt_inj.mp
                  simp only [own_xi, own_ni]
                  omega
                have r3 : (own_N (own_N c0 c1) (own_N c2 c3)) = c0 := by
                  apply Int64.toInt_inj.mp
                  simp only [own_xi, own_ni]
                  omega
                refine ⟨rfl, N48, Kp48, ?_⟩
                rw [r0, r1, r2, r3]
                exact V48
            · have K : ∀ target, Steps p.tables e below (T40.setTop (mkF m 47 #[.val (.ref u0), .val (.int (3 : Int32)), .val (.long c3), .second, .val (.int (0 : Int32))] [])) target → Steps p.tables e below (T40.setTop (mkF m 28 #[.val (.ref u0), .val (.int (3 : Int32)), .val (.long c3), .second, .val (.int (0 : Int32))] [(.int (lcmpW c2 c3))])) target := by
                intro target kt
                refine XS.ifYes X40.here hx rfl (pc0 := 28) (pc' := 47) rfl (hb hby d3_28) rfl ((if0 _ _).trans (flt (fun q => hc28_43 ((lw_lt c2 c3).mp q))).2.1) (by decide) (by decide) ?_
                exact kt
              refine Done.of ?_ K
              obtain ⟨cl50, Ar50, qq50, S50, M50, H50, G50⟩ := id V40
              have hin50 : ¬ ((1 : Int32) < 0 ∨ cl50.slots.size ≤ ((1 : Int32)).toNatClampNeg) := inb_of S50 ⟨by decide, by decide⟩
              obtain ⟨T51, h51, X51, e51, W51, st51⟩ := stJ X40 hx hZ e40 Ar50 (j := (1 : Int32)) hin50 (g := (mkF m 53 #[.val (.ref u0), .val (.int (3 : Int32)), .val (.long c3), .second, .val (.int (0 : Int32))] [(.long c3), (.int (1 : Int32)), (.ref u0)])) rfl rfl (hb hby d3_53)
              have V51 : Arv Z h51 u0 kA .long (4 : Int32) [(.long c2), (.long c3), (.long c1), (.long c0)] _ := Arv.set Ar50 qq50 S50 M50 H50 G50 rfl W51 1 rfl (Nat.le_of_ble_eq_true rfl)
              have N51 := Fr.snoc X51 N40 g0
              have Z51 : n0 ≤ h51.size := Nat.le_trans Z40 (Nat.le_of_eq W51.size.symm)
              have Kp51 := Kp40.wr W51 (Or.inl (List.mem_of_getElem? (i := 0) rfl))
              obtain ⟨cl52, Ar52, qq52, S52, M52, H52, G52⟩ := id V51
              obtain ⟨fs, hr, hrun, hended, hW, hsame⟩ := X51.leave (v := none) (fun _ => rfl)
              refine ⟨_, _, ?_, hrun, hended, _, _, rfl, ?_, ⟨_, rfl⟩, hW, hsame.mono (by decide) (by decide)⟩
              · show Steps p.tables e below (T40.setTop (mkF m 47 #[.val (.ref u0), .val (.int (3 : Int32)), .val (.long c3), .second, .val (.int (0 : Int32))] [])) _
                refine XS.aloadN X40.here hx rfl (hb hby d3_47) rfl rfl ?_
                show Steps p.tables e below (T40.setTop (mkF m 48 #[.val (.ref u0), .val (.int (3 : Int32)), .val (.long c3), .second, .val (.int (0 : Int32))] [(.ref u0)])) _
                refine XS.iload X40.here hx rfl (hb hby d3_48) rfl ?_
                show Steps p.tables e below (T40.setTop (mkF m 50 #[.val (.ref u0), .val (.int (3 : Int32)), .val (.long c3), .second, .val (.int (0 : Int32))] [(.int (0 : Int32)), (.ref u0)])) _
                refine XS.iconst X40.here hx rfl (hb hby d3_50) ?_
                show Steps p.tables e below (T40.setTop (mkF m 51 #[.val (.ref u0), .val (.int (3 : Int32)), .val (.long c3), .second, .val (.int (0 : Int32))] [(.int (1 : Int32)), (.int (0 : Int32)), (.ref u0)])) _
                refine XS.iadd X40.here hx rfl (hb hby d3_51) rfl ?_
                rw [show ((0 : Int32) + (1 : Int32)) = (1 : Int32) from by decide]
                show Steps p.tables e below (T40.setTop (mkF m 52 #[.val (.ref u0), .val (.int (3 : Int32)), .val (.long c3), .second, .val (.int (0 : Int32))] [(.int (1 : Int32)), (.ref u0)])) _
                refine XS.lloadN X40.here hx rfl (hb hby d3_52) rfl ?_
                show Steps p.tables e below (T40.setTop (mkF m 53 #[.val (.ref u0), .val (.int (3 : Int32)), .val (.long c3), .second, .val (.int (0 : Int32))] [(.long c3), (.int (1 : Int32)), (.ref u0)])) _
                refine st51 _ ?_
                show Steps p.tables e below (T51.setTop (mkF m 54 #[.val (.ref u0), .val (.int (3 : Int32)), .val (.long c3), .second, .val (.int (0 : Int32))] [])) _
                refine XS.iinc X51.here hx rfl (hb hby d3_54) rfl (l' := #[.val (.ref u0), .val (.int ((3 : Int32) + (1 : Int32))), .val (.long c3), .second, .val (.int (0 : Int32))]) rfl ?_
                rw [show ((3 : Int32) + (1 : Int32)) = (4 : Int32) from by decide]
                show Steps p.tables e below (T51.setTop (mkF m 57 #[.val (.ref u0), .val (.int (4 : Int32)), .val (.long c3), .second, .val (.int (0 : Int32))] [])) _
                refine XS.goto X51.here hx rfl (pc0 := 57) (pc' := 2) rfl (hb hby d3_57) (by decide) (by decide) ?_
                show Steps p.tables e below (T51.setTop (mkF m 2 #[.val (.ref u0), .val (.int (4 : Int32)), .val (.long c3), .second, .val (.int (0 : Int32))] [])) _
                refine XS.iloadN X51.here hx rfl (hb hby d3_2) rfl ?_
                show Steps p.tables e below (T51.setTop (mkF m 3 #[.val (.ref u0), .val (.int (4 : Int32)), .val (.long c3), .second, .val (.int (0 : Int32))] [(.int (4 : Int32))])) _
                refine XS.aloadN X51.here hx rfl (hb hby d3_3) rfl rfl ?_
                show Steps p.tables e below (T51.setTop (mkF m 4 #[.val (.ref u0), .val (.int (4 : Int32)), .val (.long c3), .second, .val (.int (0 : Int32))] [(.ref u0), (.int (4 : Int32))])) _
                refine X51.arraylength hx (by rw [e51]; exact Ar52.1) (State.isArrayOf_alike hZ.alike Ar52.2.1) (g := (mkF m 4 #[.val (.ref u0), .val (.int (4 : Int32)), .val (.long c3), .second, .val (.int (0 : Int32))] [(.ref u0), (.int (4 : Int32))])) rfl rfl (hb hby d3_4) _ ?_
                rw [len_of S52 M52]
                show Steps p.tables e below (T51.setTop (mkF m 5 #[.val (.ref u0), .val (.int (4 : Int32)), .val (.long c3), .second, .val (.int (0 : Int32))] [(.int (4 : Int32)), (.int (4 : Int32))])) _
                refine XS.icmpYes X51.here hx rfl (pc0 := 5) (pc' := 60) rfl (hb hby d3_5) rfl (flt (by decide : ¬ ((4 : Int32) < (4 : Int32)))).2.1 (by decide) (by decide) ?_
                show Steps p.tables e below (T51.setTop (mkF m 60 #[.val (.ref u0), .val (.int (4 : Int32)), .val (.long c3), .second, .val (.int (0 : Int32))] [])) _
                exact X51.returnOut hx Bd.returns (hb hby d3_60) hr
              · show Q3n4 Z u0 kA dv c0 c1 c2 c3 h0 n0 _ T51.heap _
                rw [e51]
                have k0 := Int64.lt_iff_toInt_lt.mp hc28_5
                have k1 := Int64.lt_iff_toInt_lt.mp hc28_15
                have k2 := Int64.lt_iff_toInt_lt.mp hc28_21
                have k3 := Int64.lt_iff_toInt_lt.mp hc28_31
                have k4 := Int64.lt_iff_toInt_lt.mp hc28_37
                have k5 := mt Int64.lt_iff_toInt_lt.mpr hc28_43
                have r0 : (own_X (own_X c0 c1) (own_X c2 c3)) = c2 := by
                  apply Int64.toInt_inj.mp
                  simp only [own_xi, own_ni]
                  omega
                have r1 : (own_X (own_X (own_N c0 c1) (own_N c2 c3)) (own_N (own_X c0 c1) (own_X c2 c3))) = c3 := by
                  apply Int64.toInt_inj.mp
                  simp only [own_xi, own_ni]
                  omega
                have r2 : (own_N (own_X (own_N c0 c1) (own_N c2 c3)) (own_N (own_X c0 c1) (own_X c2 c3))) = c1 := by
                  apply Int64.toInt_inj.mp
                  simp only [own_xi, own_ni]
                  omega
                have r3 : (own_N (own_N c0 c1) (own_N c2 c3)) = c0 := by
                  apply Int64.toInt_inj.mp
                  simp only [own_xi, own_ni]
                  omega
                refine ⟨rfl, N51, Kp51, ?_⟩
                rw [r0, r1, r2, r3]
                exact V51
          · have K : ∀ target, Steps p.tables e below (T34.setTop (mkF m 47 #[.val (.ref u0), .val (.int (3 : Int32)), .val (.long c3), .second, .val (.int (1 : Int32))] [])) target → Steps p.tables e below (T34.setTop (mkF m 28 #[.val (.ref u0), .val (.int (3 : Int32)), .val (.long c3), .second, .val (.int (1 : Int32))] [(.int (lcmpW c1 c3))])) target := by
              intro target kt
              refine XS.ifYes X34.here hx rfl (pc0 := 28) (pc' := 47) rfl (hb hby d3_28) rfl ((if0 _ _).trans (flt (fun q => hc28_37 ((lw_lt c1 c3).mp q))).2.1) (by decide) (by decide) ?_
              exact kt
            refine Done.of ?_ K
            obtain ⟨cl53, Ar53, qq53, S53, M53, H53, G53⟩ := id V34
            have hin53 : ¬ ((2 : Int32) < 0 ∨ cl53.slots.size ≤ ((2 : Int32)).toNatClampNeg) := inb_of S53 ⟨by decide, by decide⟩
            obtain ⟨T54, h54, X54, e54, W54, st54⟩ := stJ X34 hx hZ e34 Ar53 (j := (2 : Int32)) hin53 (g := (mkF m 53 #[.val (.ref u0), .val (.int (3 : Int32)), .val (.long c3), .second, .val (.int (1 : Int32))] [(.long c3), (.int (2 : Int32)), (.ref u0)])) rfl rfl (hb hby d3_53)
            have V54 : Arv Z h54 u0 kA .long (4 : Int32) [(.long c2), (.long c1), (.long c3), (.long c0)] _ := Arv.set Ar53 qq53 S53 M53 H53 G53 rfl W54 2 rfl (Nat.le_of_ble_eq_true rfl)
            have N54 := Fr.snoc X54 N34 g0
            have Z54 : n0 ≤ h54.size := Nat.le_trans Z34 (Nat.le_of_eq W54.size.symm)
            have Kp54 := Kp34.wr W54 (Or.inl (List.mem_of_getElem? (i := 0) rfl))
            obtain ⟨cl55, Ar55, qq55, S55, M55, H55, G55⟩ := id V54
            obtain ⟨fs, hr, hrun, hended, hW, hsame⟩ := X54.leave (v := none) (fun _ => rfl)
            refine ⟨_, _, ?_, hrun, hended, _, _, rfl, ?_, ⟨_, rfl⟩, hW, hsame.mono (by decide) (by decide)⟩
            · show Steps p.tables e below (T34.setTop (mkF m 47 #[.val (.ref u0), .val (.int (3 : Int32)), .val (.long c3), .second, .val (.int (1 : Int32))] [])) _
              refine XS.aloadN X34.here hx rfl (hb hby d3_47) rfl rfl ?_
              show Steps p.tables e below (T34.setTop (mkF m 48 #[.val (.ref u0), .val (.int (3 : Int32)), .val (.long c3), .second, .val (.int (1 : Int32))] [(.ref u0)])) _
              refine XS.iload X34.here hx rfl (hb hby d3_48) rfl ?_
              show Steps p.tables e below (T34.setTop (mkF m 50 #[.val (.ref u0), .val (.int (3 : Int32)), .val (.long c3), .second, .val (.int (1 : Int32))] [(.int (1 : Int32)), (.ref u0)])) _
              refine XS.iconst X34.here hx rfl (hb hby d3_50) ?_
              show Steps p.tables e below (T34.setTop (mkF m 51 #[.val (.ref u0), .val (.int (3 : Int32)), .val (.long c3), .second, .val (.int (1 : Int32))] [(.int (1 : Int32)), (.int (1 : Int32)), (.ref u0)])) _
              refine XS.iadd X34.here hx rfl (hb hby d3_51) rfl ?_
              rw [show ((1 : Int32) + (1 : Int32)) = (2 : Int32) from by decide]
              show Steps p.tables e below (T34.setTop (mkF m 52 #[.val (.ref u0), .val (.int (3 : Int32)), .val (.long c3), .second, .val (.int (1 : Int32))] [(.int (2 : Int32)), (.ref u0)])) _
              refine XS.lloadN X34.here hx rfl (hb hby d3_52) rfl ?_
              show Steps p.tables e below (T34.setTop (mkF m 53 #[.val (.ref u0), .val (.int (3 : Int32)), .val (.long c3), .second, .val (.int (1 : Int32))] [(.long c3), (.int (2 : Int32)), (.ref u0)])) _
              refine st54 _ ?_
              show Steps p.tables e below (T54.setTop (mkF m 54 #[.val (.ref u0), .val (.int (3 : Int32)), .val (.long c3), .second, .val (.int (1 : Int32))] [])) _
              refine XS.iinc X54.here hx rfl (hb hby d3_54) rfl (l' := #[.val (.ref u0), .val (.int ((3 : Int32) + (1 : Int32))), .val (.long c3), .second, .val (.int (1 : Int32))]) rfl ?_
              rw [show ((3 : Int32) + (1 : Int32)) = (4 : Int32) from by decide]
              show Steps p.tables e below (T54.setTop (mkF m 57 #[.val (.ref u0), .val (.int (4 : Int32)), .val (.long c3), .second, .val (.int (1 : Int32))] [])) _
              refine XS.goto X54.here hx rfl (pc0 := 57) (pc' := 2) rfl (hb hby d3_57) (by decide) (by decide) ?_
              show Steps p.tables e below (T54.setTop (mkF m 2 #[.val (.ref u0), .val (.int (4 : Int32)), .val (.long c3), .second, .val (.int (1 : Int32))] [])) _
              refine XS.iloadN X54.here hx rfl (hb hby d3_2) rfl ?_
              show Steps p.tables e below (T54.setTop (mkF m 3 #[.val (.ref u0), .val (.int (4 : Int32)), .val (.long c3), .second, .val (.int (1 : Int32))] [(.int (4 : Int32))])) _
              refine XS.aloadN X54.here hx rfl (hb hby d3_3) rfl rfl ?_
              show Steps p.tables e below (T54.setTop (mkF m 4 #[.val (.ref u0), .val (.int (4 : Int32)), .val (.long c3), .second, .val (.int (1 : Int32))] [(.ref u0), (.int (4 : Int32))])) _
              refine X54.arraylength hx (by rw [e54]; exact Ar55.1) (State.isArrayOf_alike hZ.alike Ar55.2.1) (g := (mkF m 4 #[.val (.ref u0), .val (.int (4 : Int32)), .val (.long c3), .second, .val (.int (1 : Int32))] [(.ref u0), (.int (4 : Int32))])) rfl rfl (hb hby d3_4) _ ?_
              rw [len_of S55 M55]
              show Steps p.tables e below (T54.setTop (mkF m 5 #[.val (.ref u0), .val (.int (4 : Int32)), .val (.long c3), .second, .val (.int (1 : Int32))] [(.int (4 : Int32)), (.int (4 : Int32))])) _
              refine XS.icmpYes X54.here hx rfl (pc0 := 5) (pc' := 60) rfl (hb hby d3_5) rfl (flt (by decide : ¬ ((4 : Int32) < (4 : Int32)))).2.1 (by decide) (by decide) ?_
              show Steps p.tables e below (T54.setTop (mkF m 60 #[.val (.ref u0), .val (.int (4 : Int32)), .val (.long c3), .second, .val (.int (1 : Int32))] [])) _
              exact X54.returnOut hx Bd.returns (hb hby d3_60) hr
            · show Q3n4 Z u0 kA dv c0 c1 c2 c3 h0 n0 _ T54.heap _
              rw [e54]
              have k0 := Int64.lt_iff_toInt_lt.mp hc28_5
              have k1 := Int64.lt_iff_toInt_lt.mp hc28_15
              have k2 := Int64.lt_iff_toInt_lt.mp hc28_21
              have k3 := Int64.lt_iff_toInt_lt.mp hc28_31
              have k4 := mt Int64.lt_iff_toInt_lt.mpr hc28_37
              have r0 : (own_X (own_X c0 c1) (own_X c2 c3)) = c2 := by
                apply Int64.toInt_inj.mp
                simp only [own_xi, own_ni]
                omega
              have r1 : (own_X (own_X (own_N c0 c1) (own_N c2 c3)) (own_N (own_X c0 c1) (own_X c2 c3))) = c1 := by
                apply Int64.toInt_inj.mp
                simp only [own_xi, own_ni]
                omega
              have r2 : (own_N (own_X (own_N c0 c1) (own_N c2 c3)) (own_N (own_X c0 c1) (own_X c2 c3))) = c3 := by
                apply Int64.toInt_inj.mp
                simp only [own_xi, own_ni]
                omega
              have r3 : (own_N (own_N c0 c1) (own_N c2 c3)) = c0 := by
                apply Int64.toInt_inj.mp
                simp only [own_xi, own_ni]
                omega
              refine ⟨rfl, N54, Kp54, ?_⟩
              rw [r0, r1, r2, r3]
              exact V54
        · have K : ∀ target, Steps p.tables e below (T26.setTop (mkF m 47 #[.val (.ref u0), .val (.int (3 : Int32)), .val (.long c3), .second, .val (.int (2 : Int32))] [])) target → Steps p.tables e below (T26.setTop (mkF m 28 #[.val (.ref u0), .val (.int (3 : Int32)), .val (.long c3), .second, .val (.int (2 : Int32))] [(.int (lcmpW c0 c3))])) target := by
            intro target kt
            refine XS.ifYes X26.here hx rfl (pc0 := 28) (pc' := 47) rfl (hb hby d3_28) rfl ((if0 _ _).trans (flt (fun q => hc28_31 ((lw_lt c0 c3).mp q))).2.1) (by decide) (by decide) ?_
            exact kt
          refine Done.of ?_ K
          obtain ⟨cl56, Ar56, qq56, S56, M56, H56, G56⟩ := id V26
          have hin56 : ¬ ((3 : Int32) < 0 ∨ cl56.slots.size ≤ ((3 : Int32)).toNatClampNeg) := inb_of S56 ⟨by decide, by decide⟩
          obtain ⟨T57, h57, X57, e57, W57, st57⟩ := stJ X26 hx hZ e26 Ar56 (j := (3 : Int32)) hin56 (g := (mkF m 53 #[.val (.ref u0), .val (.int (3 : Int32)), .val (.long c3), .second, .val (.int (2 : Int32))] [(.long c3), (.int (3 : Int32)), (.ref u0)])) rfl rfl (hb hby d3_53)
          have V57 : Arv Z h57 u0 kA .long (4 : Int32) [(.long c2), (.long c1), (.long c0), (.long c3)] _ := Arv.set Ar56 qq56 S56 M56 H56 G56 rfl W57 3 rfl (Nat.le_of_ble_eq_true rfl)
          have N57 := Fr.snoc X57 N26 g0
          have Z57 : n0 ≤ h57.size := Nat.le_trans Z26 (Nat.le_of_eq W57.size.symm)
          have Kp57 := Kp26.wr W57 (Or.inl (List.mem_of_getElem? (i := 0) rfl))
          obtain ⟨cl58, Ar58, qq58, S58, M58, H58, G58⟩ := id V57
          obtain ⟨fs, hr, hrun, hended, hW, hsame⟩ := X57.leave (v := none) (fun _ => rfl)
          refine ⟨_, _, ?_, hrun, hended, _, _, rfl, ?_, ⟨_, rfl⟩, hW, hsame.mono (by decide) (by decide)⟩
          · show Steps p.tables e below (T26.setTop (mkF m 47 #[.val (.ref u0), .val (.int (3 : Int32)), .val (.long c3), .second, .val (.int (2 : Int32))] [])) _
            refine XS.aloadN X26.here hx rfl (hb hby d3_47) rfl rfl ?_
            show Steps p.tables e below (T26.setTop (mkF m 48 #[.val (.ref u0), .val (.int (3 : Int32)), .val (.long c3), .second, .val (.int (2 : Int32))] [(.ref u0)])) _
            refine XS.iload X26.here hx rfl (hb hby d3_48) rfl ?_
            show Steps p.tables e below (T26.setTop (mkF m 50 #[.val (.ref u0), .val (.int (3 : Int32)), .val (.long c3), .second, .val (.int (2 : Int32))] [(.int (2 : Int32)), (.ref u0)])) _
            refine XS.iconst X26.here hx rfl (hb hby d3_50) ?_
            show Steps p.tables e below (T26.setTop (mkF m 51 #[.val (.ref u0), .val (.int (3 : Int32)), .val (.long c3), .second, .val (.int (2 : Int32))] [(.int (1 : Int32)), (.int (2 : Int32)), (.ref u0)])) _
            refine XS.iadd X26.here hx rfl (hb hby d3_51) rfl ?_
            rw [show ((2 : Int32) + (1 : Int32)) = (3 : Int32) from by decide]
            show Steps p.tables e below (T26.setTop (mkF m 52 #[.val (.ref u0), .val (.int (3 : Int32)), .val (.long c3), .second, .val (.int (2 : Int32))] [(.int (3 : Int32)), (.ref u0)])) _
            refine XS.lloadN X26.here hx rfl (hb hby d3_52) rfl ?_
            show Steps p.tables e below (T26.setTop (mkF m 53 #[.val (.ref u0), .val (.int (3 : Int32)), .val (.long c3), .second, .val (.int (2 : Int32))] [(.long c3), (.int (3 : Int32)), (.ref u0)])) _
            refine st57 _ ?_
            show Steps p.tables e below (T57.setTop (mkF m 54 #[.val (.ref u0), .val (.int (3 : Int32)), .val (.long c3), .second, .val (.int (2 : Int32))] [])) _
            refine XS.iinc X57.here hx rfl (hb hby d3_54) rfl (l' := #[.val (.ref u0), .val (.int ((3 : Int32) + (1 : Int32))), .val (.long c3), .second, .val (.int (2 : Int32))]) rfl ?_
            rw [show ((3 : Int32) + (1 : Int32)) = (4 : Int32) from by decide]
            show Steps p.tables e below (T57.setTop (mkF m 57 #[.val (.ref u0), .val (.int (4 : Int32)), .val (.long c3), .second, .val (.int (2 : Int32))] [])) _
            refine XS.goto X57.here hx rfl (pc0 := 57) (pc' := 2) rfl (hb hby d3_57) (by decide) (by decide) ?_
            show Steps p.tables e below (T57.setTop (mkF m 2 #[.val (.ref u0), .val (.int (4 : Int32)), .val (.long c3), .second, .val (.int (2 : Int32))] [])) _
            refine XS.iloadN X57.here hx rfl (hb hby d3_2) rfl ?_
            show Steps p.tables e below (T57.setTop (mkF m 3 #[.val (.ref u0), .val (.int (4 : Int32)), .val (.long c3), .second, .val (.int (2 : Int32))] [(.int (4 : Int32))])) _
            refine XS.aloadN X57.here hx rfl (hb hby d3_3) rfl rfl ?_
            show Steps p.tables e below (T57.setTop (mkF m 4 #[.val (.ref u0), .val (.int (4 : Int32)), .val (.long c3), .second, .val (.int (2 : Int32))] [(.ref u0), (.int (4 : Int32))])) _
            refine X57.arraylength hx (by rw [e57]; exact Ar58.1) (State.isArrayOf_alike hZ.alike Ar58.2.1) (g := (mkF m 4 #[.val (.ref u0), .val (.int (4 : Int32)), .val (.long c3), .second, .val (.int (2 : Int32))] [(.ref u0), (.int (4 : Int32))])) rfl rfl (hb hby d3_4) _ ?_
            rw [len_of S58 M58]
            show Steps p.tables e below (T57.setTop (mkF m 5 #[.val (.ref u0), .val (.int (4 : Int32)), .val (.long c3), .second, .val (.int (2 : Int32))] [(.int (4 : Int32)), (.int (4 : Int32))])) _
            refine XS.icmpYes X57.here hx rfl (pc0 := 5) (pc' := 60) rfl (hb hby d3_5) rfl (flt (by decide : ¬ ((4 : Int32) < (4 : Int32)))).2.1 (by decide) (by decide) ?_
            show Steps p.tables e below (T57.setTop (mkF m 60 #[.val (.ref u0), .val (.int (4 : Int32)), .val (.long c3), .second, .val (.int (2 : Int32))] [])) _
            exact X57.returnOut hx Bd.returns (hb hby d3_60) hr
          · show Q3n4 Z u0 kA dv c0 c1 c2 c3 h0 n0 _ T57.heap _
            rw [e57]
            have k0 := Int64.lt_iff_toInt_lt.mp hc28_5
            have k1 := Int64.lt_iff_toInt_lt.mp hc28_15
            have k2 := Int64.lt_iff_toInt_lt.mp hc28_21
            have k3 := mt Int64.lt_iff_toInt_lt.mpr hc28_31
            have r0 : (own_X (own_X c0 c1) (own_X c2 c3)) = c2 := by
              apply Int64.toInt_inj.mp
              simp only [own_xi, own_ni]
              omega
            have r1 : (own_X (own_X (own_N c0 c1) (own_N c2 c3)) (own_N (own_X c0 c1) (own_X c2 c3))) = c1 := by
              apply Int64.toInt_inj.mp
              simp only [own_xi, own_ni]
              omega
            have r2 : (own_N (own_X (own_N c0 c1) (own_N c2 c3)) (own_N (own_X c0 c1) (own_X c2 c3))) = c0 := by
              apply Int64.toInt_inj.mp
              simp only [own_xi, own_ni]
              omega
            have r3 : (own_N (own_N c0 c1) (own_N c2 c3)) = c3 := by
              apply Int64.toInt_inj.mp
              simp only [own_xi, own_ni]
              omega
            refine ⟨rfl, N57, Kp57, ?_⟩
            rw [r0, r1, r2, r3]
            exact V57
      · have K : ∀ target, Steps p.tables e below (T18.setTop (mkF m 47 #[.val (.ref u0), .val (.int (2 : Int32)), .val (.long c2), .second, .val (.int (0 : Int32))] [])) target → Steps p.tables e below (T18.setTop (mkF m 28 #[.val (.ref u0), .val (.int (2 : Int32)), .val (.long c2), .second, .val (.int (0 : Int32))] [(.int (lcmpW c1 c2))])) target := by
          intro target kt
          refine XS.ifYes X18.here hx rfl (pc0 := 28) (pc' := 47) rfl (hb hby d3_28) rfl ((if0 _ _).trans (flt (fun q => hc28_21 ((lw_lt c1 c2).mp q))).2.1) (by decide) (by decide) ?_
          exact kt
        refine Done.of ?_ K
        obtain ⟨cl59, Ar59, qq59, S59, M59, H59, G59⟩ := id V18
        have hin59 : ¬ ((1 : Int32) < 0 ∨ cl59.slots.size ≤ ((1 : Int32)).toNatClampNeg) := inb_of S59 ⟨by decide, by decide⟩
        obtain ⟨T60, h60, X60, e60, W60, st60⟩ := stJ X18 hx hZ e18 Ar59 (j := (1 : Int32)) hin59 (g := (mkF m 53 #[.val (.ref u0), .val (.int (2 : Int32)), .val (.long c2), .second, .val (.int (0 : Int32))] [(.long c2), (.int (1 : Int32)), (.ref u0)])) rfl rfl (hb hby d3_53)
        have V60 : Arv Z h60 u0 kA .long (4 : Int32) [(.long c1), (.long c2), (.long c0), (.long c3)] _ := Arv.set Ar59 qq59 S59 M59 H59 G59 rfl W60 1 rfl (Nat.le_of_ble_eq_true rfl)
        have N60 := Fr.snoc X60 N18 g0
        have Z60 : n0 ≤ h60.size := Nat.le_trans Z18 (Nat.le_of_eq W60.size.symm)
        have Kp60 := Kp18.wr W60 (Or.inl (List.mem_of_getElem? (i := 0) rfl))
        obtain ⟨cl61, Ar61, qq61, S61, M61, H61, G61⟩ := id V60
        obtain ⟨cl62, Ar62, qq62, S62, M62, H62, G62⟩ := id V60
        have hin62 : ¬ ((3 : Int32) < 0 ∨ cl62.slots.size ≤ ((3 : Int32)).toNatClampNeg) := inb_of S62 ⟨by decide, by decide⟩
        have hat62 : cl62.slots[((3 : Int32)).toNatClampNeg]? = some (.long c3) := H62 3 (by rw [S62]; decide)
        obtain ⟨cl63, Ar63, qq63, S63, M63, H63, G63⟩ := id V60
        have hin63 : ¬ ((2 : Int32) < 0 ∨ cl63.slots.size ≤ ((2 : Int32)).toNatClampNeg) := inb_of S63 ⟨by decide, by decide⟩
        have hat63 : cl63.slots[((2 : Int32)).toNatClampNeg]? = some (.long c0) := H63 2 (by rw [S63]; decide)
        have K64 : ∀ target, Steps p.tables e below (T60.setTop (mkF m 28 #[.val (.ref u0), .val (.int (3 : Int32)), .val (.long c3), .second, .val (.int (2 : Int32))] [(.int (lcmpW c0 c3))])) target → Steps p.tables e below (T18.setTop (mkF m 47 #[.val (.ref u0), .val (.int (2 : Int32)), .val (.long c2), .second, .val (.int (0 : Int32))] [])) target := by
          intro target kt
          show Steps p.tables e below (T18.setTop (mkF m 47 #[.val (.ref u0), .val (.int (2 : Int32)), .val (.long c2), .second, .val (.int (0 : Int32))] [])) _
          refine XS.aloadN X18.here hx rfl (hb hby d3_47) rfl rfl ?_
          show Steps p.tables e below (T18.setTop (mkF m 48 #[.val (.ref u0), .val (.int (2 : Int32)), .val (.long c2), .second, .val (.int (0 : Int32))] [(.ref u0)])) _
          refine XS.iload X18.here hx rfl (hb hby d3_48) rfl ?_
          show Steps p.tables e below (T18.setTop (mkF m 50 #[.val (.ref u0), .val (.int (2 : Int32)), .val (.long c2), .second, .val (.int (0 : Int32))] [(.int (0 : Int32)), (.ref u0)])) _
          refine XS.iconst X18.here hx rfl (hb hby d3_50) ?_
          show Steps p.tables e below (T18.setTop (mkF m 51 #[.val (.ref u0), .val (.int (2 : Int32)), .val (.long c2), .second, .val (.int (0 : Int32))] [(.int (1 : Int32)), (.int (0 : Int32)), (.ref u0)])) _
          refine XS.iadd X18.here hx rfl (hb hby d3_51) rfl ?_
          rw [show ((0 : Int32) + (1 : Int32)) = (1 : Int32) from by decide]
          show Steps p.tables e below (T18.setTop (mkF m 52 #[.val (.ref u0), .val (.int (2 : Int32)), .val (.long c2), .second, .val (.int (0 : Int32))] [(.int (1 : Int32)), (.ref u0)])) _
          refine XS.lloadN X18.here hx rfl (hb hby d3_52) rfl ?_
          show Steps p.tables e below (T18.setTop (mkF m 53 #[.val (.ref u0), .val (.int (2 : Int32)), .val (.long c2), .second, .val (.int (0 : Int32))] [(.long c2), (.int (1 : Int32)), (.ref u0)])) _
          refine st60 _ ?_
          show Steps p.tables e below (T60.setTop (mkF m 54 #[.val (.ref u0), .val (.int (2 : Int32)), .val (.long c2), .second, .val (.int (0 : Int32))] [])) _
          refine XS.iinc X60.here hx rfl (hb hby d3_54) rfl (l' := #[.val (.ref u0), .val (.int ((2 : Int32) + (1 : Int32))), .val (.long c2), .second, .val (.int (0 : Int32))]) rfl ?_
          rw [show ((2 : Int32) + (1 : Int32)) = (3 : Int32) from by decide]
          show Steps p.tables e below (T60.setTop (mkF m 57 #[.val (.ref u0), .val (.int (3 : Int32)), .val (.long c2), .second, .val (.int (0 : Int32))] [])) _
          refine XS.goto X60.here hx rfl (pc0 := 57) (pc' := 2) rfl (hb hby d3_57) (by decide) (by decide) ?_
          show Steps p.tables e below (T60.setTop (mkF m 2 #[.val (.ref u0), .val (.int (3 : Int32)), .val (.long c2), .second, .val (.int (0 : Int32))] [])) _
          refine XS.iloadN X60.here hx rfl (hb hby d3_2) rfl ?_
          show Steps p.tables e below (T60.setTop (mkF m 3 #[.val (.ref u0), .val (.int (3 : Int32)), .val (.long c2), .second, .val (.int (0 : Int32))] [(.int (3 : Int32))])) _
          refine XS.aloadN X60.here hx rfl (hb hby d3_3) rfl rfl ?_
          show Steps p.tables e below (T60.setTop (mkF m 4 #[.val (.ref u0), .val (.int (3 : Int32)), .val (.long c2), .second, .val (.int (0 : Int32))] [(.ref u0), (.int (3 : Int32))])) _
          refine X60.arraylength hx (by rw [e60]; exact Ar61.1) (State.isArrayOf_alike hZ.alike Ar61.2.1) (g := (mkF m 4 #[.val (.ref u0), .val (.int (3 : Int32)), .val (.long c2), .second, .val (.int (0 : Int32))] [(.ref u0), (.int (3 : Int32))])) rfl rfl (hb hby d3_4) _ ?_
          rw [len_of S61 M61]
          show Steps p.tables e below (T60.setTop (mkF m 5 #[.val (.ref u0), .val (.int (3 : Int32)), .val (.long c2), .second, .val (.int (0 : Int32))] [(.int (4 : Int32)), (.int (3 : Int32))])) _
          refine XS.icmpNo X60.here hx rfl (hb hby d3_5) rfl (tlt (by decide : (3 : Int32) < (4 : Int32))).2.1 ?_
          show Steps p.tables e below (T60.setTop (mkF m 8 #[.val (.ref u0), .val (.int (3 : Int32)), .val (.long c2), .second, .val (.int (0 : Int32))] [])) _
          refine XS.aloadN X60.here hx rfl (hb hby d3_8) rfl rfl ?_
          show Steps p.tables e below (T60.setTop (mkF m 9 #[.val (.ref u0), .val (.int (3 : Int32)), .val (.long c2), .second, .val (.int (0 : Int32))] [(.ref u0)])) _
          refine XS.iloadN X60.here hx rfl (hb hby d3_9) rfl ?_
          show Steps p.tables e below (T60.setTop (mkF m 10 #[.val (.ref u0), .val (.int (3 : Int32)), .val (.long c2), .second, .val (.int (0 : Int32))] [(.int (3 : Int32)), (.ref u0)])) _
          refine X60.laload hx (j := (3 : Int32)) (v := (.long c3)) (by rw [e60]; exact Ar62.1) (State.isArrayOf_alike hZ.alike Ar62.2.1) Ar62.2.2 hin62 hat62 (g := (mkF m 10 #[.val (.ref u0), .val (.int (3 : Int32)), .val (.long c2), .second, .val (.int (0 : Int32))] [(.int (3 : Int32)), (.ref u0)])) rfl rfl (hb hby d3_10) _ ?_
          show Steps p.tables e below (T60.setTop (mkF m 11 #[.val (.ref u0), .val (.int (3 : Int32)), .val (.long c2), .second, .val (.int (0 : Int32))] [(.long c3)])) _
          refine XS.lstoreN X60.here hx rfl (hb hby d3_11) rfl (l' := #[.val (.ref u0), .val (.int (3 : Int32)), .val (.long c3), .second, .val (.int (0 : Int32))]) rfl ?_
          show Steps p.tables e below (T60.setTop (mkF m 12 #[.val (.ref u0), .val (.int (3 : Int32)), .val (.long c3), .second, .val (.int (0 : Int32))] [])) _
          refine XS.iloadN X60.here hx rfl (hb hby d3_12) rfl ?_
          show Steps p.tables e below (T60.setTop (mkF m 13 #[.val (.ref u0), .val (.int (3 : Int32)), .val (.long c3), .second, .val (.int (0 : Int32))] [(.int (3 : Int32))])) _
          refine XS.iconst X60.here hx rfl (hb hby d3_13) ?_
          show Steps p.tables e below (T60.setTop (mkF m 14 #[.val (.ref u0), .val (.int (3 : Int32)), .val (.long c3), .second, .val (.int (0 : Int32))] [(.int (1 : Int32)), (.int (3 : Int32))])) _
          refine XS.isub X60.here hx rfl (hb hby d3_14) rfl ?_
          rw [show ((3 : Int32) - (1 : Int32)) = (2 : Int32) from by decide]
          show Steps p.tables e below (T60.setTop (mkF m 15 #[.val (.ref u0), .val (.int (3 : Int32)), .val (.long c3), .second, .val (.int (0 : Int32))] [(.int (2 : Int32))])) _
          refine XS.istore X60.here hx rfl (hb hby d3_15) rfl (l' := #[.val (.ref u0), .val (.int (3 : Int32)), .val (.long c3), .second, .val (.int (2 : Int32))]) rfl ?_
          show Steps p.tables e below (T60.setTop (mkF m 17 #[.val (.ref u0), .val (.int (3 : Int32)), .val (.long c3), .second, .val (.int (2 : Int32))] [])) _
          refine XS.iload X60.here hx rfl (hb hby d3_17) rfl ?_
          show Steps p.tables e below (T60.setTop (mkF m 19 #[.val (.ref u0), .val (.int (3 : Int32)), .val (.long c3), .second, .val (.int (2 : Int32))] [(.int (2 : Int32))])) _
          refine XS.ifNo X60.here hx rfl (hb hby d3_19) rfl ((if0 _ _).trans (flt (by decide : ¬ ((2 : Int32) < (0 : Int32)))).1) ?_
          show Steps p.tables e below (T60.setTop (mkF m 22 #[.val (.ref u0), .val (.int (3 : Int32)), .val (.long c3), .second, .val (.int (2 : Int32))] [])) _
          refine XS.aloadN X60.here hx rfl (hb hby d3_22) rfl rfl ?_
          show Steps p.tables e below (T60.setTop (mkF m 23 #[.val (.ref u0), .val (.int (3 : Int32)), .val (.long c3), .second, .val (.int (2 : Int32))] [(.ref u0)])) _
          refine XS.iload X60.here hx rfl (hb hby d3_23) rfl ?_
          show Steps p.tables e below (T60.setTop (mkF m 25 #[.val (.ref u0), .val (.int (3 : Int32)), .val (.long c3), .second, .val (.int (2 : Int32))] [(.int (2 : Int32)), (.ref u0)])) _
          refine X60.laload hx (j := (2 : Int32)) (v := (.long c0)) (by rw [e60]; exact Ar63.1) (State.isArrayOf_alike hZ.alike Ar63.2.1) Ar63.2.2 hin63 hat63 (g := (mkF m 25 #[.val (.ref u0), .val (.int (3 : Int32)), .val (.long c3), .second, .val (.int (2 : Int32))] [(.int (2 : Int32)), (.ref u0)])) rfl rfl (hb hby d3_25) _ ?_
          show Steps p.tables e below (T60.setTop (mkF m 26 #[.val (.ref u0), .val (.int (3 : Int32)), .val (.long c3), .second, .val (.int (2 : Int32))] [(.long c0)])) _
          refine XS.lloadN X60.here hx rfl (hb hby d3_26) rfl ?_
          show Steps p.tables e below (T60.setTop (mkF m 27 #[.val (.ref u0), .val (.int (3 : Int32)), .val (.long c3), .second, .val (.int (2 : Int32))] [(.long c3), (.long c0)])) _
          refine XS.lcmp X60.here hx rfl (hb hby d3_27) rfl ?_
          exact kt
        refine Done.of ?_ K64
        by_cases hc28_65 : c0 < c3
        · have K : ∀ target, Steps p.tables e below (T60.setTop (mkF m 31 #[.val (.ref u0), .val (.int (3 : Int32)), .val (.long c3), .second, .val (.int (2 : Int32))] [])) target → Steps p.tables e below (T60.setTop (mkF m 28 #[.val (.ref u0), .val (.int (3 : Int32)), .val (.long c3), .second, .val (.int (2 : Int32))] [(.int (lcmpW c0 c3))])) target := by
            intro target kt
            refine XS.ifNo X60.here hx rfl (hb hby d3_28) rfl ((if0 _ _).trans (tlt ((lw_lt c0 c3).mpr hc28_65)).2.1) ?_
            exact kt
          refine Done.of ?_ K
          obtain ⟨cl66, Ar66, qq66, S66, M66, H66, G66⟩ := id V60
          have hin66 : ¬ ((2 : Int32) < 0 ∨ cl66.slots.size ≤ ((2 : Int32)).toNatClampNeg) := inb_of S66 ⟨by decide, by decide⟩
          have hat66 : cl66.slots[((2 : Int32)).toNatClampNeg]? = some (.long c0) := H66 2 (by rw [S66]; decide)
          obtain ⟨cl67, Ar67, qq67, S67, M67, H67, G67⟩ := id V60
          have hin67 : ¬ ((3 : Int32) < 0 ∨ cl67.slots.size ≤ ((3 : Int32)).toNatClampNeg) := inb_of S67 ⟨by decide, by decide⟩
          obtain ⟨T68, h68, X68, e68, W68, st68⟩ := stJ X60 hx hZ e60 Ar67 (j := (3 : Int32)) hin67 (g := (mkF m 40 #[.val (.ref u0), .val (.int (3 : Int32)), .val (.long c3), .second, .val (.int (2 : Int32))] [(.long c0), (.int (3 : Int32)), (.ref u0)])) rfl rfl (hb hby d3_40)
          have V68 : Arv Z h68 u0 kA .long (4 : Int32) [(.long c1), (.long c2), (.long c0), (.long c0)] _ := Arv.set Ar67 qq67 S67 M67 H67 G67 rfl W68 3 rfl (Nat.le_of_ble_eq_true rfl)
          have N68 := Fr.snoc X68 N60 g0
          have Z68 : n0 ≤ h68.size := Nat.le_trans Z60 (Nat.le_of_eq W68.size.symm)
          have Kp68 := Kp60.wr W68 (Or.inl (List.mem_of_getElem? (i := 0) rfl))
          obtain ⟨cl69, Ar69, qq69, S69, M69, H69, G69⟩ := id V68
          have hin69 : ¬ ((1 : Int32) < 0 ∨ cl69.slots.size ≤ ((1 : Int32)).toNatClampNeg) := inb_of S69 ⟨by decide, by decide⟩
          have hat69 : cl69.slots[((1 : Int32)).toNatClampNeg]? = some (.long c2) := H69 1 (by rw [S69]; decide)
          have K70 : ∀ target, Steps p.tables e below (T68.setTop (mkF m 28 #[.val (.ref u0), .val (.int (3 : Int32)), .val (.long c3), .second, .val (.int (1 : Int32))] [(.int (lcmpW c2 c3))])) target → Steps p.tables e below (T60.setTop (mkF m 31 #[.val (.ref u0), .val (.int (3 : Int32)), .val (.long c3), .second, .val (.int (2 : Int32))] [])) target := by
            intro target kt
            show Steps p.tables e below (T60.setTop (mkF m 31 #[.val (.ref u0), .val (.int (3 : Int32)), .val (.long c3), .second, .val (.int (2 : Int32))] [])) _
            refine XS.aloadN X60.here hx rfl (hb hby d3_31) rfl rfl ?_
            show Steps p.tables e below (T60.setTop (mkF m 32 #[.val (.ref u0), .val (.int (3 : Int32)), .val (.long c3), .second, .val (.int (2 : Int32))] [(.ref u0)])) _
            refine XS.iload X60.here hx rfl (hb hby d3_32) rfl ?_
            show Steps p.tables e below (T60.setTop (mkF m 34 #[.val (.ref u0), .val (.int (3 : Int32)), .val (.long c3), .second, .val (.int (2 : Int32))] [(.int (2 : Int32)), (.ref u0)])) _
            refine XS.iconst X60.here hx rfl (hb hby d3_34) ?_
            show Steps p.tables e below (T60.setTop (mkF m 35 #[.val (.ref u0), .val (.int (3 : Int32)), .val (.long c3), .second, .val (.int (2 : Int32))] [(.int (1 : Int32)), (.int (2 : Int32)), (.ref u0)])) _
            refine XS.iadd X60.here hx rfl (hb hby d3_35) rfl ?_
            rw [show ((2 : Int32) + (1 : Int32)) = (3 : Int32) from by decide]
            show Steps p.tables e below (T60.setTop (mkF m 36 #[.val (.ref u0), .val (.int (3 : Int32)), .val (.long c3), .second, .val (.int (2 : Int32))] [(.int (3 : Int32)), (.ref u0)])) _
            refine XS.aloadN X60.here hx rfl (hb hby d3_36) rfl rfl ?_
            show Steps p.tables e below (T60.setTop (mkF m 37 #[.val (.ref u0), .val (.int (3 : Int32)), .val (.long c3), .second, .val (.int (2 : Int32))] [(.ref u0), (.int (3 : Int32)), (.ref u0)])) _
            refine XS.iload X60.here hx rfl (hb hby d3_37) rfl ?_
            show Steps p.tables e below (T60.setTop (mkF m 39 #[.val (.ref u0), .val (.int (3 : Int32)), .val (.long c3), .second, .val (.int (2 : Int32))] [(.int (2 : Int32)), (.ref u0), (.int (3 : Int32)), (.ref u0)])) _
            refine X60.laload hx (j := (2 : Int32)) (v := (.long c0)) (by rw [e60]; exact Ar66.1) (State.isArrayOf_alike hZ.alike Ar66.2.1) Ar66.2.2 hin66 hat66 (g := (mkF m 39 #[.val (.ref u0), .val (.int (3 : Int32)), .val (.long c3), .second, .val (.int (2 : Int32))] [(.int (2 : Int32)), (.ref u0), (.int (3 : Int32)), (.ref u0)])) rfl rfl (hb hby d3_39) _ ?_
            show Steps p.tables e below (T60.setTop (mkF m 40 #[.val (.ref u0), .val (.int (3 : Int32)), .val (.long c3), .second, .val (.int (2 : Int32))] [(.long c0), (.int (3 : Int32)), (.ref u0)])) _
            refine st68 _ ?_
            show Steps p.tables e below (T68.setTop (mkF m 41 #[.val (.ref u0), .val (.int (3 : Int32)), .val (.long c3), .second, .val (.int (2 : Int32))] [])) _
            refine XS.iinc X68.here hx rfl (hb hby d3_41) rfl (l' := #[.val (.ref u0), .val (.int (3 : Int32)), .val (.long c3), .second, .val (.int ((2 : Int32) + (-1 : Int32)))]) rfl ?_
            rw [show ((2 : Int32) + (-1 : Int32)) = (1 : Int32) from by decide]
            show Steps p.tables e below (T68.setTop (mkF m 44 #[.val (.ref u0), .val (.int (3 : Int32)), .val (.long c3), .second, .val (.int (1 : Int32))] [])) _
            refine XS.goto X68.here hx rfl (pc0 := 44) (pc' := 17) rfl (hb hby d3_44) (by decide) (by decide) ?_
            show Steps p.tables e below (T68.setTop (mkF m 17 #[.val (.ref u0), .val (.int (3 : Int32)), .val (.long c3), .second, .val (.int (1 : Int32))] [])) _
            refine XS.iload X68.here hx rfl (hb hby d3_17) rfl ?_
            show Steps p.tables e below (T68.setTop (mkF m 19 #[.val (.ref u0), .val (.int (3 : Int32)), .val (.long c3), .second, .val (.int (1 : Int32))] [(.int (1 : Int32))])) _
            refine XS.ifNo X68.here hx rfl (hb hby d3_19) rfl ((if0 _ _).trans (flt (by decide : ¬ ((1 : Int32) < (0 : Int32)))).1) ?_
            show Steps p.tables e below (T68.setTop (mkF m 22 #[.val (.ref u0), .val (.int (3 : Int32)), .val (.long c3), .second, .val (.int (1 : Int32))] [])) _
            refine XS.aloadN X68.here hx rfl (hb hby d3_22) rfl rfl ?_
            show Steps p.tables e below (T68.setTop (mkF m 23 #[.val (.ref u0), .val (.int (3 : Int32)), .val (.long c3), .second, .val (.int (1 : Int32))] [(.ref u0)])) _
            refine XS.iload X68.here hx rfl (hb hby d3_23) rfl ?_
            show Steps p.tables e below (T68.setTop (mkF m 25 #[.val (.ref u0), .val (.int (3 : Int32)), .val (.long c3), .second, .val (.int (1 : Int32))] [(.int (1 : Int32)), (.ref u0)])) _
            refine X68.laload hx (j := (1 : Int32)) (v := (.long c2)) (by rw [e68]; exact Ar69.1) (State.isArrayOf_alike hZ.alike Ar69.2.1) Ar69.2.2 hin69 hat69 (g := (mkF m 25 #[.val (.ref u0), .val (.int (3 : Int32)), .val (.long c3), .second, .val (.int (1 : Int32))] [(.int (1 : Int32)), (.ref u0)])) rfl rfl (hb hby d3_25) _ ?_
            show Steps p.tables e below (T68.setTop (mkF m 26 #[.val (.ref u0), .val (.int (3 : Int32)), .val (.long c3), .second, .val (.int (1 : Int32))] [(.long c2)])) _
            refine XS.lloadN X68.here hx rfl (hb hby d3_26) rfl ?_
            show Steps p.tables e below (T68.setTop (mkF m 27 #[.val (.ref u0), .val (.int (3 : Int32)), .val (.long c3), .second, .val (.int (1 : Int32))] [(.long c3), (.long c2)])) _
            refine XS.lcmp X68.here hx rfl (hb hby d3_27) rfl ?_
            exact kt
          refine Done.of ?_ K70
          by_cases hc28_71 : c2 < c3
          · have K : ∀ target, Steps p.tables e below (T68.setTop (mkF m 31 #[.val (.ref u0), .val (.int (3 : Int32)), .val (.long c3), .second, .val (.int (1 : Int32))] [])) target → Steps p.tables e below (T68.setTop (mkF m 28 #[.val (.ref u0), .val (.int (3 : Int32)), .val (.long c3), .second, .val (.int (1 : Int32))] [(.int (lcmpW c2 c3))])) target := by
              intro target kt
              refine XS.ifNo X68.here hx rfl (hb hby d3_28) rfl ((if0 _ _).trans (tlt ((lw_lt c2 c3).mpr hc28_71)).2.1) ?_
              exact kt
            refine Done.of ?_ K
            obtain ⟨cl72, Ar72, qq72, S72, M72, H72, G72⟩ := id V68
            have hin72 : ¬ ((1 : Int32) < 0 ∨ cl72.slots.size ≤ ((1 : Int32)).toNatClampNeg) := inb_of S72 ⟨by decide, by decide⟩
            have hat72 : cl72.slots[((1 : Int32)).toNatClampNeg]? = some (.long c2) := H72 1 (by rw [S72]; decide)
            obtain ⟨cl73, Ar73, qq73, S73, M73, H73, G73⟩ := id V68
            have hin73 : ¬ ((2 : Int32) < 0 ∨ cl73.slots.size ≤ ((2 : Int32)).toNatClampNeg) := inb_of S73 ⟨by decide, by decide⟩
            obtain ⟨T74, h74, X74, e74, W74, st74⟩ := stJ X68 hx hZ e68 Ar73 (j := (2 : Int32)) hin73 (g := (mkF m 40 #[.val (.ref u0), .val (.int (3 : Int32)), .val (.long c3), .second, .val (.int (1 : Int32))] [(.long c2), (.int (2 : Int32)), (.ref u0)])) rfl rfl (hb hby d3_40)
            have V74 : Arv Z h74 u0 kA .long (4 : Int32) [(.long c1), (.long c2), (.long c2), (.long c0)] _ := Arv.set Ar73 qq73 S73 M73 H73 G73 rfl W74 2 rfl (Nat.le_of_ble_eq_true rfl)
            have N74 := Fr.snoc X74 N68 g0
            have Z74 : n0 ≤ h74.size := Nat.le_trans Z68 (Nat.le_of_eq W74.size.symm)
            have Kp74 := Kp68.wr W74 (Or.inl (List.mem_of_getElem? (i := 0) rfl))
            obtain ⟨cl75, Ar75, qq75, S75, M75, H75, G75⟩ := id V74
            have hin75 : ¬ ((0 : Int32) < 0 ∨ cl75.slots.size ≤ ((0 : Int32)).toNatClampNeg) := inb_of S75 ⟨by decide, by decide⟩
            have hat75 : cl75.slots[((0 : Int32)).toNatClampNeg]? = some (.long c1) := H75 0 (by rw [S75]; decide)
            have K76 : ∀ target, Steps p.tables e below (T74.setTop (mkF m 28 #[.val (.ref u0), .val (.int (3 : Int32)), .val (.long c3), .second, .val (.int (0 : Int32))] [(.int (lcmpW c1 c3))])) target → Steps p.tables e below (T68.setTop (mkF m 31 #[.val (.ref u0), .val (.int (3 : Int32)), .val (.long c3), .second, .val (.int (1 : Int32))] [])) target := by
              intro target kt
              show Steps p.tables e below (T68.setTop (mkF m 31 #[.val (.ref u0), .val (.int (3 : Int32)), .val (.long c3), .second, .val (.int (1 : Int32))] [])) _
              refine XS.aloadN X68.here hx rfl (hb hby d3_31) rfl rfl ?_
              show Steps p.tables e below (T68.setTop (mkF m 32 #[.val (.ref u0), .val (.int (3 : Int32)), .val (.long c3), .second, .val (.int (1 : Int32))] [(.ref u0)])) _
              refine XS.iload X68.here hx rfl (hb hby d3_32) rfl ?_
              show Steps p.tables e below (T68.setTop (mkF m 34 #[.val (.ref u0), .val (.int (3 : Int32)), .val (.long c3), .second, .val (.int (1 : Int32))] [(.int (1 : Int32)), (.ref u0)])) _
              refine XS.iconst X68.here hx rfl (hb hby d3_34) ?_
              show Steps p.tables e below (T68.setTop (mkF m 35 #[.val (.ref u0), .val (.int (3 : Int32)), .val (.long c3), .second, .val (.int (1 : Int32))] [(.int (1 : Int32)), (.int (1 : Int32)), (.ref u0)])) _
              refine XS.iadd X68.here hx rfl (hb hby d3_35) rfl ?_
              rw [show ((1 : Int32) + (1 : Int32)) = (2 : Int32) from by decide]
              show Steps p.tables e below (T68.setTop (mkF m 36 #[.val (.ref u0), .val (.int (3 : Int32)), .val (.long c3), .second, .val (.int (1 : Int32))] [(.int (2 : Int32)), (.ref u0)])) _
              refine XS.aloadN X68.here hx rfl (hb hby d3_36) rfl rfl ?_
              show Steps p.tables e below (T68.setTop (mkF m 37 #[.val (.ref u0), .val (.int (3 : Int32)), .val (.long c3), .second, .val (.int (1 : Int32))] [(.ref u0), (.int (2 : Int32)), (.ref u0)])) _
              refine XS.iload X68.here hx rfl (hb hby d3_37) rfl ?_
              show Steps p.tables e below (T68.setTop (mkF m 39 #[.val (.ref u0), .val (.int (3 : Int32)), .val (.long c3), .second, .val (.int (1 : Int32))] [(.int (1 : Int32)), (.ref u0), (.int (2 : Int32)), (.ref u0)])) _
              refine X68.laload hx (j := (1 : Int32)) (v := (.long c2)) (by rw [e68]; exact Ar72.1) (State.isArrayOf_alike hZ.alike Ar72.2.1) Ar72.2.2 hin72 hat72 (g := (mkF m 39 #[.val (.ref u0), .val (.int (3 : Int32)), .val (.long c3), .second, .val (.int (1 : Int32))] [(.int (1 : Int32)), (.ref u0), (.int (2 : Int32)), (.ref u0)])) rfl rfl (hb hby d3_39) _ ?_
              show Steps p.tables e below (T68.setTop (mkF m 40 #[.val (.ref u0), .val (.int (3 : Int32)), .val (.long c3), .second, .val (.int (1 : Int32))] [(.long c2), (.int (2 : Int32)), (.ref u0)])) _
              refine st74 _ ?_
              show Steps p.tables e below (T74.setTop (mkF m 41 #[.val (.ref u0), .val (.int (3 : Int32)), .val (.long c3), .second, .val (.int (1 : Int32))] [])) _
              refine XS.iinc X74.here hx rfl (hb hby d3_41) rfl (l' := #[.val (.ref u0), .val (.int (3 : Int32)), .val (.long c3), .second, .val (.int ((1 : Int32) + (-1 : Int32)))]) rfl ?_
              rw [show ((1 : Int32) + (-1 : Int32)) = (0 : Int32) from by decide]
              show Steps p.tables e below (T74.setTop (mkF m 44 #[.val (.ref u0), .val (.int (3 : Int32)), .val (.long c3), .second, .val (.int (0 : Int32))] [])) _
              refine XS.goto X74.here hx rfl (pc0 := 44) (pc' := 17) rfl (hb hby d3_44) (by decide) (by decide) ?_
              show Steps p.tables e below (T74.setTop (mkF m 17 #[.val (.ref u0), .val (.int (3 : Int32)), .val (.long c3), .second, .val (.int (0 : Int32))] [])) _
              refine XS.iload X74.here hx rfl (hb hby d3_17) rfl ?_
              show Steps p.tables e below (T74.setTop (mkF m 19 #[.val (.ref u0), .val (.int (3 : Int32)), .val (.long c3), .second, .val (.int (0 : Int32))] [(.int (0 : Int32))])) _
              refine XS.ifNo X74.here hx rfl (hb hby d3_19) rfl ((if0 _ _).trans (flt (by decide : ¬ ((0 : Int32) < (0 : Int32)))).1) ?_
              show Steps p.tables e below (T74.setTop (mkF m 22 #[.val (.ref u0), .val (.int (3 : Int32)), .val (.long c3), .second, .val (.int (0 : Int32))] [])) _
              refine XS.aloadN X74.here hx rfl (hb hby d3_22) rfl rfl ?_
              show Steps p.tables e below (T74.setTop (mkF m 23 #[.val (.ref u0), .val (.int (3 : Int32)), .val (.long c3), .second, .val (.int (0 : Int32))] [(.ref u0)])) _
              refine XS.iload X74.here hx rfl (hb hby d3_23) rfl ?_
              show Steps p.tables e below (T74.setTop (mkF m 25 #[.val (.ref u0), .val (.int (3 : Int32)), .val (.long c3), .second, .val (.int (0 : Int32))] [(.int (0 : Int32)), (.ref u0)])) _
              refine X74.laload hx (j := (0 : Int32)) (v := (.long c1)) (by rw [e74]; exact Ar75.1) (State.isArrayOf_alike hZ.alike Ar75.2.1) Ar75.2.2 hin75 hat75 (g := (mkF m 25 #[.val (.ref u0), .val (.int (3 : Int32)), .val (.long c3), .second, .val (.int (0 : Int32))] [(.int (0 : Int32)), (.ref u0)])) rfl rfl (hb hby d3_25) _ ?_
              show Steps p.tables e below (T74.setTop (mkF m 26 #[.val (.ref u0), .val (.int (3 : Int32)), .val (.long c3), .second, .val (.int (0 : Int32))] [(.long c1)])) _
              refine XS.lloadN X74.here hx rfl (hb hby d3_26) rfl ?_
              show Steps p.tables e below (T74.setTop (mkF m 27 #[.val (.ref u0), .val (.int (3 : Int32)), .val (.long c3), .second, .val (.int (0 : Int32))] [(.long c3), (.long c1)])) _
              refine XS.lcmp X74.here hx rfl (hb hby d3_27) rfl ?_
              exact kt
            refine Done.of ?_ K76
            by_cases hc28_77 : c1 < c3
            · have K : ∀ target, Steps p.tables e below (T74.setTop (mkF m 31 #[.val (.ref u0), .val (.int (3 : Int32)), .val (.long c3), .second, .val (.int (0 : Int32))] [])) target → Steps p.tables e below (T74.setTop (mkF m 28 #[.val (.ref u0), .val (.int (3 : Int32)), .val (.long c3), .second, .val (.int (0 : Int32))] [(.int (lcmpW c1 c3))])) target := by
                intro target kt
                refine XS.ifNo X74.here hx rfl (hb hby d3_28) rfl ((if0 _ _).trans (tlt ((lw_lt c1 c3).mpr hc28_77)).2.1) ?_
                exact kt
              refine Done.of ?_ K
              obtain ⟨cl78, Ar78, qq78, S78, M78, H78, G78⟩ := id V74
              have hin78 : ¬ ((0 : Int32) < 0 ∨ cl78.slots.size ≤ ((0 : Int32)).toNatClampNeg) := inb_of S78 ⟨by decide, by decide⟩
              have hat78 : cl78.slots[((0 : Int32)).toNatClampNeg]? = some (.long c1) := H78 0 (by rw [S78]; decide)
              obtain ⟨cl79, Ar79, qq79, S79, M79, H79, G79⟩ := id V74
              have hin79 : ¬ ((1 : Int32) < 0 ∨ cl79.slots.size ≤ ((1 : Int32)).toNatClampNeg) := inb_of S79 ⟨by decide, by decide⟩
              obtain ⟨T80, h80, X80, e80, W80, st80⟩ := stJ X74 hx hZ e74 Ar79 (j := (1 : Int32)) hin79 (g := (mkF m 40 #[.val (.ref u0), .val (.int (3 : Int32)), .val (.long c3), .second, .val (.int (0 : Int32))] [(.long c1), (.int (1 : Int32)), (.ref u0)])) rfl rfl (hb hby d3_40)
              have V80 : Arv Z h80 u0 kA .long (4 : Int32) [(.long c1), (.long c1), (.long c2), (.long c0)] _ := Arv.set Ar79 qq79 S79 M79 H79 G79 rfl W80 1 rfl (Nat.le_of_ble_eq_true rfl)
              have N80 := Fr.snoc X80 N74 g0
              have Z80 : n0 ≤ h80.size := Nat.le_trans Z74 (Nat.le_of_eq W80.size.symm)
              have Kp80 := Kp74.wr W80 (Or.inl (List.mem_of_getElem? (i := 0) rfl))
              obtain ⟨cl81, Ar81, qq81, S81, M81, H81, G81⟩ := id V80
              have hin81 : ¬ ((0 : Int32) < 0 ∨ cl81.slots.size ≤ ((0 : Int32)).toNatClampNeg) := inb_of S81 ⟨by decide, by decide⟩
              obtain ⟨T82, h82, X82, e82, W82, st82⟩ := stJ X80 hx hZ e80 Ar81 (j := (0 : Int32)) hin81 (g := (mkF m 53 #[.val (.ref u0), .val (.int (3 : Int32)), .val (.long c3), .second, .val (.int (-1 : Int32))] [(.long c3), (.int (0 : Int32)), (.ref u0)])) rfl rfl (hb hby d3_53)
              have V82 : Arv Z h82 u0 kA .long (4 : Int32) [(.long c3), (.long c1), (.long c2), (.long c0)] _ := Arv.set Ar81 qq81 S81 M81 H81 G81 rfl W82 0 rfl (Nat.le_of_ble_eq_true rfl)
              have N82 := Fr.snoc X82 N80 g0
              have Z82 : n0 ≤ h82.size := Nat.le_trans Z80 (Nat.le_of_eq W82.size.symm)
              have Kp82 := Kp80.wr W82 (Or.inl (List.mem_of_getElem? (i := 0) rfl))
              obtain ⟨cl83, Ar83, qq83, S83, M83, H83, G83⟩ := id V82
              obtain ⟨fs, hr, hrun, hended, hW, hsame⟩ := X82.leave (v := none) (fun _ => rfl)
              refine ⟨_, _, ?_, hrun, hended, _, _, rfl, ?_, ⟨_, rfl⟩, hW, hsame.mono (by decide) (by decide)⟩
              · show Steps p.tables e below (T74.setTop (mkF m 31 #[.val (.ref u0), .val (.int (3 : Int32)), .val (.long c3), .second, .val (.int (0 : Int32))] [])) _
                refine XS.aloadN X74.here hx rfl (hb hby d3_31) rfl rfl ?_
                show Steps p.tables e below (T74.setTop (mkF m 32 #[.val (.ref u0), .val (.int (3 : Int32)), .val (.long c3), .second, .val (.int (0 : Int32))] [(.ref u0)])) _
                refine XS.iload X74.here hx rfl (hb hby d3_32) rfl ?_
                show Steps p.tables e below (T74.setTop (mkF m 34 #[.val (.ref u0), .val (.int (3 : Int32)), .val (.long c3), .second, .val (.int (0 : Int32))] [(.int (0 : Int32)), (.ref u0)])) _
                refine XS.iconst X74.here hx rfl (hb hby d3_34) ?_
                show Steps p.tables e below (T74.setTop (mkF m 35 #[.val (.ref u0), .val (.int (3 : Int32)), .val (.long c3), .second, .val (.int (0 : Int32))] [(.int (1 : Int32)), (.int (0 : Int32)), (.ref u0)])) _
                refine XS.iadd X74.here hx rfl (hb hby d3_35) rfl ?_
                rw [show ((0 : Int32) + (1 : Int32)) = (1 : Int32) from by decide]
                show Steps p.tables e below (T74.setTop (mkF m 36 #[.val (.ref u0), .val (.int (3 : Int32)), .val (.long c3), .second, .val (.int (0 : Int32))] [(.int (1 : Int32)), (.ref u0)])) _
                refine XS.aloadN X74.here hx rfl (hb hby d3_36) rfl rfl ?_
                show Steps p.tables e below (T74.setTop (mkF m 37 #[.val (.ref u0), .val (.int (3 : Int32)), .val (.long c3), .second, .val (.int (0 : Int32))] [(.ref u0), (.int (1 : Int32)), (.ref u0)])) _
                refine XS.iload X74.here hx rfl (hb hby d3_37) rfl ?_
                show Steps p.tables e below (T74.setTop (mkF m 39 #[.val (.ref u0), .val (.int (3 : Int32)), .val (.long c3), .second, .val (.int (0 : Int32))] [(.int (0 : Int32)), (.ref u0), (.int (1 : Int32)), (.ref u0)])) _
                refine X74.laload hx (j := (0 : Int32)) (v := (.long c1)) (by rw [e74]; exact Ar78.1) (State.isArrayOf_alike hZ.alike Ar78.2.1) Ar78.2.2 hin78 hat78 (g := (mkF m 39 #[.val (.ref u0), .val (.int (3 : Int32)), .val (.long c3), .second, .val (.int (0 : Int32))] [(.int (0 : Int32)), (.ref u0), (.int (1 : Int32)), (.ref u0)])) rfl rfl (hb hby d3_39) _ ?_
                show Steps p.tables e below (T74.setTop (mkF m 40 #[.val (.ref u0), .val (.int (3 : Int32)), .val (.long c3), .second, .val (.int (0 : Int32))] [(.long c1), (.int (1 : Int32)), (.ref u0)])) _
                refine st80 _ ?_
                show Steps p.tables e below (T80.setTop (mkF m 41 #[.val (.ref u0), .val (.int (3 : Int32)), .val (.long c3), .second, .val (.int (0 : Int32))] [])) _
                refine XS.iinc X80.here hx rfl (hb hby d3_41) rfl (l' := #[.val (.ref u0), .val (.int (3 : Int32)), .val (.long c3), .second, .val (.int ((0 : Int32) + (-1 : Int32)))]) rfl ?_
                rw [show ((0 : Int32) + (-1 : Int32)) = (-1 : Int32) from by decide]
                show Steps p.tables e below (T80.setTop (mkF m 44 #[.val (.ref u0), .val (.int (3 : Int32)), .val (.long c3), .second, .val (.int (-1 : Int32))] [])) _
                refine XS.goto X80.here hx rfl (pc0 := 44) (pc' := 17) rfl (hb hby d3_44) (by decide) (by decide) ?_
                show Steps p.tables e below (T80.setTop (mkF m 17 #[.val (.ref u0), .val (.int (3 : Int32)), .val (.long c3), .second, .val (.int (-1 : Int32))] [])) _
                refine XS.iload X80.here hx rfl (hb hby d3_17) rfl ?_
                show Steps p.tables e below (T80.setTop (mkF m 19 #[.val (.ref u0), .val (.int (3 : Int32)), .val (.long c3), .second, .val (.int (-1 : Int32))] [(.int (-1 : Int32))])) _
                refine XS.ifYes X80.here hx rfl (pc0 := 19) (pc' := 47) rfl (hb hby d3_19) rfl ((if0 _ _).trans (tlt (by decide : (-1 : Int32) < (0 : Int32))).1) (by decide) (by decide) ?_
                show Steps p.tables e below (T80.setTop (mkF m 47 #[.val (.ref u0), .val (.int (3 : Int32)), .val (.long c3), .second, .val (.int (-1 : Int32))] [])) _
                refine XS.aloadN X80.here hx rfl (hb hby d3_47) rfl rfl ?_
                show Steps p.tables e below (T80.setTop (mkF m 48 #[.val (.ref u0), .val (.int (3 : Int32)), .val (.long c3), .second, .val (.int (-1 : Int32))] [(.ref u0)])) _
                refine XS.iload X80.here hx rfl (hb hby d3_48) rfl ?_
                show Steps p.tables e below (T80.setTop (mkF m 50 #[.val (.ref u0), .val (.int (3 : Int32)), .val (.long c3), .second, .val (.int (-1 : Int32))] [(.int (-1 : Int32)), (.ref u0)])) _
                refine XS.iconst X80.here hx rfl (hb hby d3_50) ?_
                show Steps p.tables e below (T80.setTop (mkF m 51 #[.val (.ref u0), .val (.int (3 : Int32)), .val (.long c3), .second, .val (.int (-1 : Int32))] [(.int (1 : Int32)), (.int (-1 : Int32)), (.ref u0)])) _
                refine XS.iadd X80.here hx rfl (hb hby d3_51) rfl ?_
                rw [show ((-1 : Int32) + (1 : Int32)) = (0 : Int32) from by decide]
                show Steps p.tables e below (T80.setTop (mkF m 52 #[.val (.ref u0), .val (.int (3 : Int32)), .val (.long c3), .second, .val (.int (-1 : Int32))] [(.int (0 : Int32)), (.ref u0)])) _
                refine XS.lloadN X80.here hx rfl (hb hby d3_52) rfl ?_
                show Steps p.tables e below (T80.setTop (mkF m 53 #[.val (.ref u0), .val (.int (3 : Int32)), .val (.long c3), .second, .val (.int (-1 : Int32))] [(.long c3), (.int (0 : Int32)), (.ref u0)])) _
                refine st82 _ ?_
                show Steps p.tables e below (T82.setTop (mkF m 54 #[.val (.ref u0), .val (.int (3 : Int32)), .val (.long c3), .second, .val (.int (-1 : Int32))] [])) _
                refine XS.iinc X82.here hx rfl (hb hby d3_54) rfl (l' := #[.val (.ref u0), .val (.int ((3 : Int32) + (1 : Int32))), .val (.long c3), .second, .val (.int (-1 : Int32))]) rfl ?_
                rw [show ((3 : Int32) + (1 : Int32)) = (4 : Int32) from by decide]
                show Steps p.tables e below (T82.setTop (mkF m 57 #[.val (.ref u0), .val (.int (4 : Int32)), .val (.long c3), .second, .val (.int (-1 : Int32))] [])) _
                refine XS.goto X82.here hx rfl (pc0 := 57) (pc' := 2) rfl (hb hby d3_57) (by decide) (by decide) ?_
                show Steps p.tables e below (T82.setTop (mkF m 2 #[.val (.ref u0), .val (.int (4 : Int32)), .val (.long c3), .second, .val (.int (-1 : Int32))] [])) _
                refine XS.iloadN X82.here hx rfl (hb hby d3_2) rfl ?_
                show Steps p.tables e below (T82.setTop (mkF m 3 #[.val (.ref u0), .val (.int (4 : Int32)), .val (.long c3), .second, .val (.int (-1 : Int32))] [(.int (4 : Int32))])) _
                refine XS.aloadN X82.here hx rfl (hb hby d3_3) rfl rfl ?_
                show Steps p.tables e below (T82.setTop (mkF m 4 #[.val (.ref u0), .val (.int (4 : Int32)), .val (.long c3), .second, .val (.int (-1 : Int32))] [(.ref u0), (.int (4 : Int32))])) _
                refine X82.arraylength hx (by rw [e82]; exact Ar83.1) (State.isArrayOf_alike hZ.alike Ar83.2.1) (g := (mkF m 4 #[.val (.ref u0), .val (.int (4 : Int32)), .val (.long c3), .second, .val (.int (-1 : Int32))] [(.ref u0), (.int (4 : Int32))])) rfl rfl (hb hby d3_4) _ ?_
                rw [len_of S83 M83]
                show Steps p.tables e below (T82.setTop (mkF m 5 #[.val (.ref u0), .val (.int (4 : Int32)), .val (.long c3), .second, .val (.int (-1 : Int32))] [(.int (4 : Int32)), (.int (4 : Int32))])) _
                refine XS.icmpYes X82.here hx rfl (pc0 := 5) (pc' := 60) rfl (hb hby d3_5) rfl (flt (by decide : ¬ ((4 : Int32) < (4 : Int32)))).2.1 (by decide) (by decide) ?_
                show Steps p.tables e below (T82.setTop (mkF m 60 #[.val (.ref u0), .val (.int (4 : Int32)), .val (.long c3), .second, .val (.int (-1 : Int32))] [])) _
                exact X82.returnOut hx Bd.returns (hb hby d3_60) hr
              · show Q3n4 Z u0 kA dv c0 c1 c2 c3 h0 n0 _ T82.heap _
                rw [e82]
                have k0 := Int64.lt_iff_toInt_lt.mp hc28_5
                have k1 := Int64.lt_iff_toInt_lt.mp hc28_15
                have k2 := mt Int64.lt_iff_toInt_lt.mpr hc28_21
                have k3 := Int64.lt_iff_toInt_lt.mp hc28_65
                have k4 := Int64.lt_iff_toInt_lt.mp hc28_71
                have k5 := Int64.lt_iff_toInt_lt.mp hc28_77
                have r0 : (own_X (own_X c0 c1) (own_X c2 c3)) = c3 := by
                  apply Int64.toInt_inj.mp
                  simp only [own_xi, own_ni]
                  omega
                have r1 : (own_X (own_X (own_N c0 c1) (own_N c2 c3)) (own_N (own_X c0 c1) (own_X c2 c3))) = c1 := by
                  apply Int64.toInt_inj.mp
                  simp only [own_xi, own_ni]
                  omega
                have r2 : (own_N (own_X (own_N c0 c1) (own_N c2 c3)) (own_N (own_X c0 c1) (own_X c2 c3))) = c2 := by
                  apply Int64.toInt_inj.mp
                  simp only [own_xi, own_ni]
                  omega
                have r3 : (own_N (own_N c0 c1) (own_N c2 c3)) = c0 := by
                  apply Int64.toInt_inj.mp
                  simp only [own_xi, own_ni]
                  omega
                refine ⟨rfl, N82, Kp82, ?_⟩
                rw [r0, r1, r2, r3]
                exact V82
            · have K : ∀ target, Steps p.tables e below (T74.setTop (mkF m 47 #[.val (.ref u0), .val (.int (3 : Int32)), .val (.long c3), .second, .val (.int (0 : Int32))] [])) target → Steps p.tables e below (T74.setTop (mkF m 28 #[.val (.ref u0), .val (.int (3 : Int32)), .val (.long c3), .second, .val (.int (0 : Int32))] [(.int (lcmpW c1 c3))])) target := by
                intro target kt
                refine XS.ifYes X74.here hx rfl (pc0 := 28) (pc' := 47) rfl (hb hby d3_28) rfl ((if0 _ _).trans (flt (fun q => hc28_77 ((lw_lt c1 c3).mp q))).2.1) (by decide) (by decide) ?_
                exact kt
              refine Done.of ?_ K
              obtain ⟨cl84, Ar84, qq84, S84, M84, H84, G84⟩ := id V74
              have hin84 : ¬ ((1 : Int32) < 0 ∨ cl84.slots.size ≤ ((1 : Int32)).toNatClampNeg) := inb_of S84 ⟨by decide, by decide⟩
              obtain ⟨T85, h85, X85, e85, W85, st85⟩ := stJ X74 hx hZ e74 Ar84 (j := (1 : Int32)) hin84 (g := (mkF m 53 #[.val (.ref u0), .val (.int (3 : Int32)), .val (.long c3), .second, .val (.int (0 : Int32))] [(.long c3), (.int (1 : Int32)), (.ref u0)])) rfl rfl (hb hby d3_53)
              have V85 : Arv Z h85 u0 kA .long (4 : Int32) [(.long c1), (.long c3), (.long c2), (.long c0)] _ := Arv.set Ar84 qq84 S84 M84 H84 G84 rfl W85 1 rfl (Nat.le_of_ble_eq_true rfl)
              have N85 := Fr.snoc X85 N74 g0
              have Z85 : n0 ≤ h85.size := Nat.le_trans Z74 (Nat.le_of_eq W85.size.symm)
              have Kp85 := Kp74.wr W85 (Or.inl (List.mem_of_getElem? (i := 0) rfl))
              obtain ⟨cl86, Ar86, qq86, S86, M86, H86, G86⟩ := id V85
              obtain ⟨fs, hr, hrun, hended, hW, hsame⟩ := X85.leave (v := none) (fun _ => rfl)
              refine ⟨_, _, ?_, hrun, hended, _, _, rfl, ?_, ⟨_, rfl⟩, hW, hsame.mono (by decide) (by decide)⟩
              · show Steps p.tables e below (T74.setTop (mkF m 47 #[.val (.ref u0), .val (.int (3 : Int32)), .val (.long c3), .second, .val (.int (0 : Int32))] [])) _
                refine XS.aloadN X74.here hx rfl (hb hby d3_47) rfl rfl ?_
                show Steps p.tables e below (T74.setTop (mkF m 48 #[.val (.ref u0), .val (.int (3 : Int32)), .val (.long c3), .second, .val (.int (0 : Int32))] [(.ref u0)])) _
                refine XS.iload X74.here hx rfl (hb hby d3_48) rfl ?_
                show Steps p.tables e below (T74.setTop (mkF m 50 #[.val (.ref u0), .val (.int (3 : Int32)), .val (.long c3), .second, .val (.int (0 : Int32))] [(.int (0 : Int32)), (.ref u0)])) _
                refine XS.iconst X74.here hx rfl (hb hby d3_50) ?_
                show Steps p.tables e below (T74.setTop (mkF m 51 #[.val (.ref u0), .val (.int (3 : Int32)), .val (.long c3), .second, .val (.int (0 : Int32))] [(.int (1 : Int32)), (.int (0 : Int32)), (.ref u0)])) _
                refine XS.iadd X74.here hx rfl (hb hby d3_51) rfl ?_
                rw [show ((0 : Int32) + (1 : Int32)) = (1 : Int32) from by decide]
                show Steps p.tables e below (T74.setTop (mkF m 52 #[.val (.ref u0), .val (.int (3 : Int32)), .val (.long c3), .second, .val (.int (0 : Int32))] [(.int (1 : Int32)), (.ref u0)])) _
                refine XS.lloadN X74.here hx rfl (hb hby d3_52) rfl ?_
                show Steps p.tables e below (T74.setTop (mkF m 53 #[.val (.ref u0), .val (.int (3 : Int32)), .val (.long c3), .second, .val (.int (0 : Int32))] [(.long c3), (.int (1 : Int32)), (.ref u0)])) _
                refine st85 _ ?_
                show Steps p.tables e below (T85.setTop (mkF m 54 #[.val (.ref u0), .val (.int (3 : Int32)), .val (.long c3), .second, .val (.int (0 : Int32))] [])) _
                refine XS.iinc X85.here hx rfl (hb hby d3_54) rfl (l' := #[.val (.ref u0), .val (.int ((3 : Int32) + (1 : Int32))), .val (.long c3), .second, .val (.int (0 : Int32))]) rfl ?_
                rw [show ((3 : Int32) + (1 : Int32)) = (4 : Int32) from by decide]
                show Steps p.tables e below (T85.setTop (mkF m 57 #[.val (.ref u0), .val (.int (4 : Int32)), .val (.long c3), .second, .val (.int (0 : Int32))] [])) _
                refine XS.goto X85.here hx rfl (pc0 := 57) (pc' := 2) rfl (hb hby d3_57) (by decide) (by decide) ?_
                show Steps p.tables e below (T85.setTop (mkF m 2 #[.val (.ref u0), .val (.int (4 : Int32)), .val (.long c3), .second, .val (.int (0 : Int32))] [])) _
                refine XS.iloadN X85.here hx rfl (hb hby d3_2) rfl ?_
                show Steps p.tables e below (T85.setTop (mkF m 3 #[.val (.ref u0), .val (.int (4 : Int32)), .val (.long c3), .second, .val (.int (0 : Int32))] [(.int (4 : Int32))])) _
                refine XS.aloadN X85.here hx rfl (hb hby d3_3) rfl rfl ?_
                show Steps p.tables e below (T85.setTop (mkF m 4 #[.val (.ref u0), .val (.int (4 : Int32)), .val (.long c3), .second, .val (.int (0 : Int32))] [(.ref u0), (.int (4 : Int32))])) _
                refine X85.arraylength hx (by rw [e85]; exact Ar86.1) (State.isArrayOf_alike hZ.alike Ar86.2.1) (g := (mkF m 4 #[.val (.ref u0), .val (.int (4 : Int32)), .val (.long c3), .second, .val (.int (0 : Int32))] [(.ref u0), (.int (4 : Int32))])) rfl rfl (hb hby d3_4) _ ?_
                rw [len_of S86 M86]
                show Steps p.tables e below (T85.setTop (mkF m 5 #[.val (.ref u0), .val (.int (4 : Int32)), .val (.long c3), .second, .val (.int (0 : Int32))] [(.int (4 : Int32)), (.int (4 : Int32))])) _
                refine XS.icmpYes X85.here hx rfl (pc0 := 5) (pc' := 60) rfl (hb hby d3_5) rfl (flt (by decide : ¬ ((4 : Int32) < (4 : Int32)))).2.1 (by decide) (by decide) ?_
                show Steps p.tables e below (T85.setTop (mkF m 60 #[.val (.ref u0), .val (.int (4 : Int32)), .val (.long c3), .second, .val (.int (0 : Int32))] [])) _
                exact X85.returnOut hx Bd.returns (hb hby d3_60) hr
              · show Q3n4 Z u0 kA dv c0 c1 c2 c3 h0 n0 _ T85.heap _
                rw [e85]
                have k0 := Int64.lt_iff_toInt_lt.mp hc28_5
                have k1 := Int64.lt_iff_toInt_lt.mp hc28_15
                have k2 := mt Int64.lt_iff_toInt_lt.mpr hc28_21
                have k3 := Int64.lt_iff_toInt_lt.mp hc28_65
                have k4 := Int64.lt_iff_toInt_lt.mp hc28_71
                have k5 := mt Int64.lt_iff_toInt_lt.mpr hc28_77
                have r0 : (own_X (own_X c0 c1) (own_X c2 c3)) = c1 := by
                  apply Int64.toInt_inj.mp
                  simp only [own_xi, own_ni]
                  omega
                have r1 : (own_X (own_X (own_N c0 c1) (own_N c2 c3)) (own_N (own_X c0 c1) (own_X c2 c3))) = c3 := by
                  apply Int64.toInt_inj.mp
                  simp only [own_xi, own_ni]
                  omega
                have r2 : (own_N (own_X (own_N c0 c1) (own_N c2 c3)) (own_N (own_X c0 c1) (own_X c2 c3))) = c2 := by
                  apply Int64.toInt_inj.mp
                  simp only [own_xi, own_ni]
                  omega
                have r3 : (own_N (own_N c0 c1) (own_N c2 c3)) = c0 := by
                  apply Int64.toInt_inj.mp
                  simp only [own_xi, own_ni]
                  omega
                refine ⟨rfl, N85, Kp85, ?_⟩
                rw [r0, r1, r2, r3]
                exact V85
          · have K : ∀ target, Steps p.tables e below (T68.setTop (mkF m 47 #[.val (.ref u0), .val (.int (3 : Int32)), .val (.long c3), .second, .val (.int (1 : Int32))] [])) target → Steps p.tables e below (T68.setTop (mkF m 28 #[.val (.ref u0), .val (.int (3 : Int32)), .val (.long c3), .second, .val (.int (1 : Int32))] [(.int (lcmpW c2 c3))])) target := by
              intro target kt
              refine XS.ifYes X68.here hx rfl (pc0 := 28) (pc' := 47) rfl (hb hby d3_28) rfl ((if0 _ _).trans (flt (fun q => hc28_71 ((lw_lt c2 c3).mp q))).2.1) (by decide) (by decide) ?_
              exact kt
            refine Done.of ?_ K
            obtain ⟨cl87, Ar87, qq87, S87, M87, H87, G87⟩ := id V68
            have hin87 : ¬ ((2 : Int32) < 0 ∨ cl87.slots.size ≤ ((2 : Int32)).toNatClampNeg) := inb_of S87 ⟨by decide, by decide⟩
            obtain ⟨T88, h88, X88, e88, W88, st88⟩ := stJ X68 hx hZ e68 Ar87 (j := (2 : Int32)) hin87 (g := (mkF m 53 #[.val (.ref u0), .val (.int (3 : Int32)), .val (.long c3), .second, .val (.int (1 : Int32))] [(.long c3), (.int (2 : Int32)), (.ref u0)])) rfl rfl (hb hby d3_53)
            have V88 : Arv Z h88 u0 kA .long (4 : Int32) [(.long c1), (.long c2), (.long c3), (.long c0)] _ := Arv.set Ar87 qq87 S87 M87 H87 G87 rfl W88 2 rfl (Nat.le_of_ble_eq_true rfl)
            have N88 := Fr.snoc X88 N68 g0
            have Z88 : n0 ≤ h88.size := Nat.le_trans Z68 (Nat.le_of_eq W88.size.symm)
            have Kp88 := Kp68.wr W88 (Or.inl (List.mem_of_getElem? (i := 0) rfl))
            obtain ⟨cl89, Ar89, qq89, S89, M89, H89, G89⟩ := id V88
            obtain ⟨fs, hr, hrun, hended, hW, hsame⟩ := X88.leave (v := none) (fun _ => rfl)
            refine ⟨_, _, ?_, hrun, hended, _, _, rfl, ?_, ⟨_, rfl⟩, hW, hsame.mono (by decide) (by decide)⟩
            · show Steps p.tables e below (T68.setTop (mkF m 47 #[.val (.ref u0), .val (.int (3 : Int32)), .val (.long c3), .second, .val (.int (1 : Int32))] [])) _
              refine XS.aloadN X68.here hx rfl (hb hby d3_47) rfl rfl ?_
              show Steps p.tables e below (T68.setTop (mkF m 48 #[.val (.ref u0), .val (.int (3 : Int32)), .val (.long c3), .second, .val (.int (1 : Int32))] [(.ref u0)])) _
              refine XS.iload X68.here hx rfl (hb hby d3_48) rfl ?_
              show Steps p.tables e below (T68.setTop (mkF m 50 #[.val (.ref u0), .val (.int (3 : Int32)), .val (.long c3), .second, .val (.int (1 : Int32))] [(.int (1 : Int32)), (.ref u0)])) _
              refine XS.iconst X68.here hx rfl (hb hby d3_50) ?_
              show Steps p.tables e below (T68.setTop (mkF m 51 #[.val (.ref u0), .val (.int (3 : Int32)), .val (.long c3), .second, .val (.int (1 : Int32))] [(.int (1 : Int32)), (.int (1 : Int32)), (.ref u0)])) _
              refine XS.iadd X68.here hx rfl (hb hby d3_51) rfl ?_
              rw [show ((1 : Int32) + (1 : Int32)) = (2 : Int32) from by decide]
              show Steps p.tables e below (T68.setTop (mkF m 52 #[.val (.ref u0), .val (.int (3 : Int32)), .val (.long c3), .second, .val (.int (1 : Int32))] [(.int (2 : Int32)), (.ref u0)])) _
              refine XS.lloadN X68.here hx rfl (hb hby d3_52) rfl ?_
              show Steps p.tables e below (T68.setTop (mkF m 53 #[.val (.ref u0), .val (.int (3 : Int32)), .val (.long c3), .second, .val (.int (1 : Int32))] [(.long c3), (.int (2 : Int32)), (.ref u0)])) _
              refine st88 _ ?_
              show Steps p.tables e below (T88.setTop (mkF m 54 #[.val (.ref u0), .val (.int (3 : Int32)), .val (.long c3), .second, .val (.int (1 : Int32))] [])) _
              refine XS.iinc X88.here hx rfl (hb hby d3_54) rfl (l' := #[.val (.ref u0), .val (.int ((3 : Int32) + (1 : Int32))), .val (.long c3), .second, .val (.int (1 : Int32))]) rfl ?_
              rw [show ((3 : Int32) + (1 : Int32)) = (4 : Int32) from by decide]
              show Steps p.tables e below (T88.setTop (mkF m 57 #[.val (.ref u0), .val (.int (4 : Int32)), .val (.long c3), .second, .val (.int (1 : Int32))] [])) _
              refine XS.goto X88.here hx rfl (pc0 := 57) (pc' := 2) rfl (hb hby d3_57) (by decide) (by decide) ?_
              show Steps p.tables e below (T88.setTop (mkF m 2 #[.val (.ref u0), .val (.int (4 : Int32)), .val (.long c3), .second, .val (.int (1 : Int32))] [])) _
              refine XS.iloadN X88.here hx rfl (hb hby d3_2) rfl ?_
              show Steps p.tables e below (T88.setTop (mkF m 3 #[.val (.ref u0), .val (.int (4 : Int32)), .val (.long c3), .second, .val (.int (1 : Int32))] [(.int (4 : Int32))])) _
              refine XS.aloadN X88.here hx rfl (hb hby d3_3) rfl rfl ?_
              show Steps p.tables e below (T88.setTop (mkF m 4 #[.val (.ref u0), .val (.int (4 : Int32)), .val (.long c3), .second, .val (.int (1 : Int32))] [(.ref u0), (.int (4 : Int32))])) _
              refine X88.arraylength hx (by rw [e88]; exact Ar89.1) (State.isArrayOf_alike hZ.alike Ar89.2.1) (g := (mkF m 4 #[.val (.ref u0), .val (.int (4 : Int32)), .val (.long c3), .second, .val (.int (1 : Int32))] [(.ref u0), (.int (4 : Int32))])) rfl rfl (hb hby d3_4) _ ?_
              rw [len_of S89 M89]
              show Steps p.tables e below (T88.setTop (mkF m 5 #[.val (.ref u0), .val (.int (4 : Int32)), .val (.long c3), .second, .val (.int (1 : Int32))] [(.int (4 : Int32)), (.int (4 : Int32))])) _
              refine XS.icmpYes X88.here hx rfl (pc0 := 5) (pc' := 60) rfl (hb hby d3_5) rfl (flt (by decide : ¬ ((4 : Int32) < (4 : Int32)))).2.1 (by decide) (by decide) ?_
              show Steps p.tables e below (T88.setTop (mkF m 60 #[.val (.ref u0), .val (.int (4 : Int32)), .val (.long c3), .second, .val (.int (1 : Int32))] [])) _
              exact X88.returnOut hx Bd.returns (hb hby d3_60) hr
            · show Q3n4 Z u0 kA dv c0 c1 c2 c3 h0 n0 _ T88.heap _
              rw [e88]
              have k0 := Int64.lt_iff_toInt_lt.mp hc28_5
              have k1 := Int64.lt_iff_toInt_lt.mp hc28_15
              have k2 := mt Int64.lt_iff_toInt_lt.mpr hc28_21
              have k3 := Int64.lt_iff_toInt_lt.mp hc28_65
              have k4 := mt Int64.lt_iff_toInt_lt.mpr hc28_71
              have r0 : (own_X (own_X c0 c1) (own_X c2 c3)) = c1 := by
                apply Int64.toInt_inj.mp
                simp only [own_xi, own_ni]
                omega
              have r1 : (own_X (own_X (own_N c0 c1) (own_N c2 c3)) (own_N (own_X c0 c1) (own_X c2 c3))) = c2 := by
                apply Int64.toInt_inj.mp
                simp only [own_xi, own_ni]
                omega
              have r2 : (own_N (own_X (own_N c0 c1) (own_N c2 c3)) (own_N (own_X c0 c1) (own_X c2 c3))) = c3 := by
                apply Int64.toInt_inj.mp
                simp only [own_xi, own_ni]
                omega
              have r3 : (own_N (own_N c0 c1) (own_N c2 c3)) = c0 := by
                apply Int64.toInt_inj.mp
                simp only [own_xi, own_ni]
                omega
              refine ⟨rfl, N88, Kp88, ?_⟩
              rw [r0, r1, r2, r3]
              exact V88
        · have K : ∀ target, Steps p.tables e below (T60.setTop (mkF m 47 #[.val (.ref u0), .val (.int (3 : Int32)), .val (.long c3), .second, .val (.int (2 : Int32))] [])) target → Steps p.tables e below (T60.setTop (mkF m 28 #[.val (.ref u0), .val (.int (3 : Int32)), .val (.long c3), .second, .val (.int (2 : Int32))] [(.int (lcmpW c0 c3))])) target := by
            intro target kt
            refine XS.ifYes X60.here hx rfl (pc0 := 28) (pc' := 47) rfl (hb hby d3_28) rfl ((if0 _ _).trans (flt (fun q => hc28_65 ((lw_lt c0 c3).mp q))).2.1) (by decide) (by decide) ?_
            exact kt
          refine Done.of ?_ K
          obtain ⟨cl90, Ar90, qq90, S90, M90, H90, G90⟩ := id V60
          have hin90 : ¬ ((3 : Int32) < 0 ∨ cl90.slots.size ≤ ((3 : Int32)).toNatClampNeg) := inb_of S90 ⟨by decide, by decide⟩
          obtain ⟨T91, h91, X91, e91, W91, st91⟩ := stJ X60 hx hZ e60 Ar90 (j := (3 : Int32)) hin90 (g := (mkF m 53 #[.val (.ref u0), .val (.int (3 : Int32)), .val (.long c3), .second, .val (.int (2 : Int32))] [(.long c3), (.int (3 : Int32)), (.ref u0)])) rfl rfl (hb hby d3_53)
          have V91 : Arv Z h91 u0 kA .long (4 : Int32) [(.long c1), (.long c2), (.long c0), (.long c3)] _ := Arv.set Ar90 qq90 S90 M90 H90 G90 rfl W91 3 rfl (Nat.le_of_ble_eq_true rfl)
          have N91 := Fr.snoc X91 N60 g0
          have Z91 : n0 ≤ h91.size := Nat.le_trans Z60 (Nat.le_of_eq W91.size.symm)
          have Kp91 := Kp60.wr W91 (Or.inl (List.mem_of_getElem? (i := 0) rfl))
          obtain ⟨cl92, Ar92, qq92, S92, M92, H92, G92⟩ := id V91
          obtain ⟨fs, hr, hrun, hended, hW, hsame⟩ := X91.leave (v := none) (fun _ => rfl)
          refine ⟨_, _, ?_, hrun, hended, _, _, rfl, ?_, ⟨_, rfl⟩, hW, hsame.mono (by decide) (by decide)⟩
          · show Steps p.tables e below (T60.setTop (mkF m 47 #[.val (.ref u0), .val (.int (3 : Int32)), .val (.long c3), .second, .val (.int (2 : Int32))] [])) _
            refine XS.aloadN X60.here hx rfl (hb hby d3_47) rfl rfl ?_
            show Steps p.tables e below (T60.setTop (mkF m 48 #[.val (.ref u0), .val (.int (3 : Int32)), .val (.long c3), .second, .val (.int (2 : Int32))] [(.ref u0)])) _
            refine XS.iload X60.here hx rfl (hb hby d3_48) rfl ?_
            show Steps p.tables e below (T60.setTop (mkF m 50 #[.val (.ref u0), .val (.int (3 : Int32)), .val (.long c3), .second, .val (.int (2 : Int32))] [(.int (2 : Int32)), (.ref u0)])) _
            refine XS.iconst X60.here hx rfl (hb hby d3_50) ?_
            show Steps p.tables e below (T60.setTop (mkF m 51 #[.val (.ref u0), .val (.int (3 : Int32)), .val (.long c3), .second, .val (.int (2 : Int32))] [(.int (1 : Int32)), (.int (2 : Int32)), (.ref u0)])) _
            refine XS.iadd X60.here hx rfl (hb hby d3_51) rfl ?_
            rw [show ((2 : Int32) + (1 : Int32)) = (3 : Int32) from by decide]
            show Steps p.tables e below (T60.setTop (mkF m 52 #[.val (.ref u0), .val (.int (3 : Int32)), .val (.long c3), .second, .val (.int (2 : Int32))] [(.int (3 : Int32)), (.ref u0)])) _
            refine XS.lloadN X60.here hx rfl (hb hby d3_52) rfl ?_
            show Steps p.tables e below (T60.setTop (mkF m 53 #[.val (.ref u0), .val (.int (3 : Int32)), .val (.long c3), .second, .val (.int (2 : Int32))] [(.long c3), (.int (3 : Int32)), (.ref u0)])) _
            refine st91 _ ?_
            show Steps p.tables e below (T91.setTop (mkF m 54 #[.val (.ref u0), .val (.int (3 : Int32)), .val (.long c3), .second, .val (.int (2 : Int32))] [])) _
            refine XS.iinc X91.here hx rfl (hb hby d3_54) rfl (l' := #[.val (.ref u0), .val (.int ((3 : Int32) + (1 : Int32))), .val (.long c3), .second, .val (.int (2 : Int32))]) rfl ?_
            rw [show ((3 : Int32) + (1 : Int32)) = (4 : Int32) from by decide]
            show Steps p.tables e below (T91.setTop (mkF m 57 #[.val (.ref u0), .val (.int (4 : Int32)), .val (.long c3), .second, .val (.int (2 : Int32))] [])) _
            refine XS.goto X91.here hx rfl (pc0 := 57) (pc' := 2) rfl (hb hby d3_57) (by decide) (by decide) ?_
            show Steps p.tables e below (T91.setTop (mkF m 2 #[.val (.ref u0), .val (.int (4 : Int32)), .val (.long c3), .second, .val (.int (2 : Int32))] [])) _
            refine XS.iloadN X91.here hx rfl (hb hby d3_2) rfl ?_
            show Steps p.tables e below (T91.setTop (mkF m 3 #[.val (.ref u0), .val (.int (4 : Int32)), .val (.long c3), .second, .val (.int (2 : Int32))] [(.int (4 : Int32))])) _
            refine XS.aloadN X91.here hx rfl (hb hby d3_3) rfl rfl ?_
            show Steps p.tables e below (T91.setTop (mkF m 4 #[.val (.ref u0), .val (.int (4 : Int32)), .val (.long c3), .second, .val (.int (2 : Int32))] [(.ref u0), (.int (4 : Int32))])) _
            refine X91.arraylength hx (by rw [e91]; exact Ar92.1) (State.isArrayOf_alike hZ.alike Ar92.2.1) (g := (mkF m 4 #[.val (.ref u0), .val (.int (4 : Int32)), .val (.long c3), .second, .val (.int (2 : Int32))] [(.ref u0), (.int (4 : Int32))])) rfl rfl (hb hby d3_4) _ ?_
            rw [len_of S92 M92]
            show Steps p.tables e below (T91.setTop (mkF m 5 #[.val (.ref u0), .val (.int (4 : Int32)), .val (.long c3), .second, .val (.int (2 : Int32))] [(.int (4 : Int32)), (.int (4 : Int32))])) _
            refine XS.icmpYes X91.here hx rfl (pc0 := 5) (pc' := 60) rfl (hb hby d3_5) rfl (flt (by decide : ¬ ((4 : Int32) < (4 : Int32)))).2.1 (by decide) (by decide) ?_
            show Steps p.tables e below (T91.setTop (mkF m 60 #[.val (.ref u0), .val (.int (4 : Int32)), .val (.long c3), .second, .val (.int (2 : Int32))] [])) _
            exact X91.returnOut hx Bd.returns (hb hby d3_60) hr
          · show Q3n4 Z u0 kA dv c0 c1 c2 c3 h0 n0 _ T91.heap _
            rw [e91]
            have k0 := Int64.lt_iff_toInt_lt.mp hc28_5
            have k1 := Int64.lt_iff_toInt_lt.mp hc28_15
            have k2 := mt Int64.lt_iff_toInt_lt.mpr hc28_21
            have k3 := mt Int64.lt_iff_toInt_lt.mpr hc28_65
            have r0 : (own_X (own_X c0 c1) (own_X c2 c3)) = c1 := by
              apply Int64.toInt_inj.mp
              simp only [own_xi, own_ni]
              omega
            have r1 : (own_X (own_X (own_N c0 c1) (own_N c2 c3)) (own_N (own_X c0 c1) (own_X c2 c3))) = c2 := by
              apply Int64.toInt_inj.mp
              simp only [own_xi, own_ni]
              omega
            have r2 : (own_N (own_X (own_N c0 c1) (own_N c2 c3)) (own_N (own_X c0 c1) (own_X c2 c3))) = c0 := by
              apply Int64.toInt_inj.mp
              simp only [own_xi, own_ni]
              omega
            have r3 : (own_N (own_N c0 c1) (own_N c2 c3)) = c3 := by
              apply Int64.toInt_inj.mp
              simp only [own_xi, own_ni]
              omega
            refine ⟨rfl, N91, Kp91, ?_⟩
            rw [r0, r1, r2, r3]
            exact V91
    · have K : ∀ target, Steps p.tables e below (T10.setTop (mkF m 47 #[.val (.ref u0), .val (.int (2 : Int32)), .val (.long c2), .second, .val (.int (1 : Int32))] [])) target → Steps p.tables e below (T10.setTop (mkF m 28 #[.val (.ref u0), .val (.int (2 : Int32)), .val (.long c2), .second, .val (.int (1 : Int32))] [(.int (lcmpW c0 c2))])) target := by
        intro target kt
        refine XS.ifYes X10.here hx rfl (pc0 := 28) (pc' := 47) rfl (hb hby d3_28) rfl ((if0 _ _).trans (flt (fun q => hc28_15 ((lw_lt c0 c2).mp q))).2.1) (by decide) (by decide) ?_
        exact kt
      refine Done.of ?_ K
      obtain ⟨cl93, Ar93, qq93, S93, M93, H93, G93⟩ := id V10
      have hin93 : ¬ ((2 : Int32) < 0 ∨ cl93.slots.size ≤ ((2 : Int32)).toNatClampNeg) := inb_of S93 ⟨by decide, by decide⟩
      obtain ⟨T94, h94, X94, e94, W94, st94⟩ := stJ X10 hx hZ e10 Ar93 (j := (2 : Int32)) hin93 (g := (mkF m 53 #[.val (.ref u0), .val (.int (2 : Int32)), .val (.long c2), .second, .val (.int (1 : Int32))] [(.long c2), (.int (2 : Int32)), (.ref u0)])) rfl rfl (hb hby d3_53)
      have V94 : Arv Z h94 u0 kA .long (4 : Int32) [(.long c1), (.long c0), (.long c2), (.long c3)] _ := Arv.set Ar93 qq93 S93 M93 H93 G93 rfl W94 2 rfl (Nat.le_of_ble_eq_true rfl)
      have N94 := Fr.snoc X94 N10 g0
      have Z94 : n0 ≤ h94.size := Nat.le_trans Z10 (Nat.le_of_eq W94.size.symm)
      have Kp94 := Kp10.wr W94 (Or.inl (List.mem_of_getElem? (i := 0) rfl))
      obtain ⟨cl95, Ar95, qq95, S95, M95, H95, G95⟩ := id V94
      obtain ⟨cl96, Ar96, qq96, S96, M96, H96, G96⟩ := id V94
      have hin96 : ¬ ((3 : Int32) < 0 ∨ cl96.slots.size ≤ ((3 : Int32)).toNatClampNeg) := inb_of S96 ⟨by decide, by decide⟩
      have hat96 : cl96.slots[((3 : Int32)).toNatClampNeg]? = some (.long c3) := H96 3 (by rw [S96]; decide)
      obtain ⟨cl97, Ar97, qq97, S97, M97, H97, G97⟩ := id V94
      have hin97 : ¬ ((2 : Int32) < 0 ∨ cl97.slots.size ≤ ((2 : Int32)).toNatClampNeg) := inb_of S97 ⟨by decide, by decide⟩
      have hat97 : cl97.slots[((2 : Int32)).toNatClampNeg]? = some (.long c2) := H97 2 (by rw [S97]; decide)
      have K98 : ∀ target, Steps p.tables e below (T94.setTop (mkF m 28 #[.val (.ref u0), .val (.int (3 : Int32)), .val (.long c3), .second, .val (.int (2 : Int32))] [(.int (lcmpW c2 c3))])) target → Steps p.tables e below (T10.setTop (mkF m 47 #[.val (.ref u0), .val (.int (2 : Int32)), .val (.long c2), .second, .val (.int (1 : Int32))] [])) target := by
        intro target kt
        show Steps p.tables e below (T10.setTop (mkF m 47 #[.val (.ref u0), .val (.int (2 : Int32)), .val (.long c2), .second, .val (.int (1 : Int32))] [])) _
        refine XS.aloadN X10.here hx rfl (hb hby d3_47) rfl rfl ?_
        show Steps p.tables e below (T10.setTop (mkF m 48 #[.val (.ref u0), .val (.int (2 : Int32)), .val (.long c2), .second, .val (.int (1 : Int32))] [(.ref u0)])) _
        refine XS.iload X10.here hx rfl (hb hby d3_48) rfl ?_
        show Steps p.tables e below (T10.setTop (mkF m 50 #[.val (.ref u0), .val (.int (2 : Int32)), .val (.long c2), .second, .val (.int (1 : Int32))] [(.int (1 : Int32)), (.ref u0)])) _
        refine XS.iconst X10.here hx rfl (hb hby d3_50) ?_
        show Steps p.tables e below (T10.setTop (mkF m 51 #[.val (.ref u0), .val (.int (2 : Int32)), .val (.long c2), .second, .val (.int (1 : Int32))] [(.int (1 : Int32)), (.int (1 : Int32)), (.ref u0)])) _
        refine XS.iadd X10.here hx rfl (hb hby d3_51) rfl ?_
        rw [show ((1 : Int32) + (1 : Int32)) = (2 : Int32) from by decide]
        show Steps p.tables e below (T10.setTop (mkF m 52 #[.val (.ref u0), .val (.int (2 : Int32)), .val (.long c2), .second, .val (.int (1 : Int32))] [(.int (2 : Int32)), (.ref u0)])) _
        refine XS.lloadN X10.here hx rfl (hb hby d3_52) rfl ?_
        show Steps p.tables e below (T10.setTop (mkF m 53 #[.val (.ref u0), .val (.int (2 : Int32)), .val (.long c2), .second, .val (.int (1 : Int32))] [(.long c2), (.int (2 : Int32)), (.ref u0)])) _
        refine st94 _ ?_
        show Steps p.tables e below (T94.setTop (mkF m 54 #[.val (.ref u0), .val (.int (2 : Int32)), .val (.long c2), .second, .val (.int (1 : Int32))] [])) _
        refine XS.iinc X94.here hx rfl (hb hby d3_54) rfl (l' := #[.val (.ref u0), .val (.int ((2 : Int32) + (1 : Int32))), .val (.long c2), .second, .val (.int (1 : Int32))]) rfl ?_
        rw [show ((2 : Int32) + (1 : Int32)) = (3 : Int32) from by decide]
        show Steps p.tables e below (T94.setTop (mkF m 57 #[.val (.ref u0), .val (.int (3 : Int32)), .val (.long c2), .second, .val (.int (1 : Int32))] [])) _
        refine XS.goto X94.here hx rfl (pc0 := 57) (pc' := 2) rfl (hb hby d3_57) (by decide) (by decide) ?_
        show Steps p.tables e below (T94.setTop (mkF m 2 #[.val (.ref u0), .val (.int (3 : Int32)), .val (.long c2), .second, .val (.int (1 : Int32))] [])) _
        refine XS.iloadN X94.here hx rfl (hb hby d3_2) rfl ?_
        show Steps p.tables e below (T94.setTop (mkF m 3 #[.val (.ref u0), .val (.int (3 : Int32)), .val (.long c2), .second, .val (.int (1 : Int32))] [(.int (3 : Int32))])) _
        refine XS.aloadN X94.here hx rfl (hb hby d3_3) rfl rfl ?_
        show Steps p.tables e below (T94.setTop (mkF m 4 #[.val (.ref u0), .val (.int (3 : Int32)), .val (.long c2), .second, .val (.int (1 : Int32))] [(.ref u0), (.int (3 : Int32))])) _
        refine X94.arraylength hx (by rw [e94]; exact Ar95.1) (State.isArrayOf_alike hZ.alike Ar95.2.1) (g := (mkF m 4 #[.val (.ref u0), .val (.int (3 : Int32)), .val (.long c2), .second, .val (.int (1 : Int32))] [(.ref u0), (.int (3 : Int32))])) rfl rfl (hb hby d3_4) _ ?_
        rw [len_of S95 M95]
        show Steps p.tables e below (T94.setTop (mkF m 5 #[.val (.ref u0), .val (.int (3 : Int32)), .val (.long c2), .second, .val (.int (1 : Int32))] [(.int (4 : Int32)), (.int (3 : Int32))])) _
        refine XS.icmpNo X94.here hx rfl (hb hby d3_5) rfl (tlt (by decide : (3 : Int32) < (4 : Int32))).2.1 ?_
        show Steps p.tables e below (T94.setTop (mkF m 8 #[.val (.ref u0), .val (.int (3 : Int32)), .val (.long c2), .second, .val (.int (1 : Int32))] [])) _
        refine XS.aloadN X94.here hx rfl (hb hby d3_8) rfl rfl ?_
        show Steps p.tables e below (T94.setTop (mkF m 9 #[.val (.ref u0), .val (.int (3 : Int32)), .val (.long c2), .second, .val (.int (1 : Int32))] [(.ref u0)])) _
        refine XS.iloadN X94.here hx rfl (hb hby d3_9) rfl ?_
        show Steps p.tables e below (T94.setTop (mkF m 10 #[.val (.ref u0), .val (.int (3 : Int32)), .val (.long c2), .second, .val (.int (1 : Int32))] [(.int (3 : Int32)), (.ref u0)])) _
        refine X94.laload hx (j := (3 : Int32)) (v := (.long c3)) (by rw [e94]; exact Ar96.1) (State.isArrayOf_alike hZ.alike Ar96.2.1) Ar96.2.2 hin96 hat96 (g := (mkF m 10 #[.val (.ref u0), .val (.int (3 : Int32)), .val (.long c2), .second, .val (.int (1 : Int32))] [(.int (3 : Int32)), (.ref u0)])) rfl rfl (hb hby d3_10) _ ?_
        show Steps p.tables e below (T94.setTop (mkF m 11 #[.val (.ref u0), .val (.int (3 : Int32)), .val (.long c2), .second, .val (.int (1 : Int32))] [(.long c3)])) _
        refine XS.lstoreN X94.here hx rfl (hb hby d3_11) rfl (l' := #[.val (.ref u0), .val (.int (3 : Int32)), .val (.long c3), .second, .val (.int (1 : Int32))]) rfl ?_
        show Steps p.tables e below (T94.setTop (mkF m 12 #[.val (.ref u0), .val (.int (3 : Int32)), .val (.long c3), .second, .val (.int (1 : Int32))] [])) _
        refine XS.iloadN X94.here hx rfl (hb hby d3_12) rfl ?_
        show Steps p.tables e below (T94.setTop (mkF m 13 #[.val (.ref u0), .val (.int (3 : Int32)), .val (.long c3), .second, .val (.int (1 : Int32))] [(.int (3 : Int32))])) _
        refine XS.iconst X94.here hx rfl (hb hby d3_13) ?_
        show Steps p.tables e below (T94.setTop (mkF m 14 #[.val (.ref u0), .val (.int (3 : Int32)), .val (.long c3), .second, .val (.int (1 : Int32))] [(.int (1 : Int32)), (.int (3 : Int32))])) _
        refine XS.isub X94.here hx rfl (hb hby d3_14) rfl ?_
        rw [show ((3 : Int32) - (1 : Int32)) = (2 : Int32) from by decide]
        show Steps p.tables e below (T94.setTop (mkF m 15 #[.val (.ref u0), .val (.int (3 : Int32)), .val (.long c3), .second, .val (.int (1 : Int32))] [(.int (2 : Int32))])) _
        refine XS.istore X94.here hx rfl (hb hby d3_15) rfl (l' := #[.val (.ref u0), .val (.int (3 : Int32)), .val (.long c3), .second, .val (.int (2 : Int32))]) rfl ?_
        show Steps p.tables e below (T94.setTop (mkF m 17 #[.val (.ref u0), .val (.int (3 : Int32)), .val (.long c3), .second, .val (.int (2 : Int32))] [])) _
        refine XS.iload X94.here hx rfl (hb hby d3_17) rfl ?_
        show Steps p.tables e below (T94.setTop (mkF m 19 #[.val (.ref u0), .val (.int (3 : Int32)), .val (.long c3), .second, .val (.int (2 : Int32))] [(.int (2 : Int32))])) _
        refine XS.ifNo X94.here hx rfl (hb hby d3_19) rfl ((if0 _ _).trans (flt (by decide : ¬ ((2 : Int32) < (0 : Int32)))).1) ?_
        show Steps p.tables e below (T94.setTop (mkF m 22 #[.val (.ref u0), .val (.int (3 : Int32)), .val (.long c3), .second, .val (.int (2 : Int32))] [])) _
        refine XS.aloadN X94.here hx rfl (hb hby d3_22) rfl rfl ?_
        show Steps p.tables e below (T94.setTop (mkF m 23 #[.val (.ref u0), .val (.int (3 : Int32)), .val (.long c3), .second, .val (.int (2 : Int32))] [(.ref u0)])) _
        refine XS.iload X94.here hx rfl (hb hby d3_23) rfl ?_
        show Steps p.tables e below (T94.setTop (mkF m 25 #[.val (.ref u0), .val (.int (3 : Int32)), .val (.long c3), .second, .val (.int (2 : Int32))] [(.int (2 : Int32)), (.ref u0)])) _
        refine X94.laload hx (j := (2 : Int32)) (v := (.long c2)) (by rw [e94]; exact Ar97.1) (State.isArrayOf_alike hZ.alike Ar97.2.1) Ar97.2.2 hin97 hat97 (g := (mkF m 25 #[.val (.ref u0), .val (.int (3 : Int32)), .val (.long c3), .second, .val (.int (2 : Int32))] [(.int (2 : Int32)), (.ref u0)])) rfl rfl (hb hby d3_25) _ ?_
        show Steps p.tables e below (T94.setTop (mkF m 26 #[.val (.ref u0), .val (.int (3 : Int32)), .val (.long c3), .second, .val (.int (2 : Int32))] [(.long c2)])) _
        refine XS.lloadN X94.here hx rfl (hb hby d3_26) rfl ?_
        show Steps p.tables e below (T94.setTop (mkF m 27 #[.val (.ref u0), .val (.int (3 : Int32)), .val (.long c3), .second, .val (.int (2 : Int32))] [(.long c3), (.long c2)])) _
        refine XS.lcmp X94.here hx rfl (hb hby d3_27) rfl ?_
        exact kt
      refine Done.of ?_ K98
      by_cases hc28_99 : c2 < c3
      · have K : ∀ target, Steps p.tables e below (T94.setTop (mkF m 31 #[.val (.ref u0), .val (.int (3 : Int32)), .val (.long c3), .second, .val (.int (2 : Int32))] [])) target → Steps p.tables e below (T94.setTop (mkF m 28 #[.val (.ref u0), .val (.int (3 : Int32)), .val (.long c3), .second, .val (.int (2 : Int32))] [(.int (lcmpW c2 c3))])) target := by
          intro target kt
          refine XS.ifNo X94.here hx rfl (hb hby d3_28) rfl ((if0 _ _).trans (tlt ((lw_lt c2 c3).mpr hc28_99)).2.1) ?_
          exact kt
        refine Done.of ?_ K
        obtain ⟨cl100, Ar100, qq100, S100, M100, H100, G100⟩ := id V94
        have hin100 : ¬ ((2 : Int32) < 0 ∨ cl100.slots.size ≤ ((2 : Int32)).toNatClampNeg) := inb_of S100 ⟨by decide, by decide⟩
        have hat100 : cl100.slots[((2 : Int32)).toNatClampNeg]? = some (.long c2) := H100 2 (by rw [S100]; decide)
        obtain ⟨cl101, Ar101, qq101, S101, M101, H101, G101⟩ := id V94
        have hin101 : ¬ ((3 : Int32) < 0 ∨ cl101.slots.size ≤ ((3 : Int32)).toNatClampNeg) := inb_of S101 ⟨by decide, by decide⟩
        obtain ⟨T102, h102, X102, e102, W102, st102⟩ := stJ X94 hx hZ e94 Ar101 (j := (3 : Int32)) hin101 (g := (mkF m 40 #[.val (.ref u0), .val (.int (3 : Int32)), .val (.long c3), .second, .val (.int (2 : Int32))] [(.long c2), (.int (3 : Int32)), (.ref u0)])) rfl rfl (hb hby d3_40)
        have V102 : Arv Z h102 u0 kA .long (4 : Int32) [(.long c1), (.long c0), (.long c2), (.long c2)] _ := Arv.set Ar101 qq101 S101 M101 H101 G101 rfl W102 3 rfl (Nat.le_of_ble_eq_true rfl)
        have N102 := Fr.snoc X102 N94 g0
        have Z102 : n0 ≤ h102.size := Nat.le_trans Z94 (Nat.le_of_eq W102.size.symm)
        have Kp102 := Kp94.wr W102 (Or.inl (List.mem_of_getElem? (i := 0) rfl))
        obtain ⟨cl103, Ar103, qq103, S103, M103, H103, G103⟩ := id V102
        have hin103 : ¬ ((1 : Int32) < 0 ∨ cl103.slots.size ≤ ((1 : Int32)).toNatClampNeg) := inb_of S103 ⟨by decide, by decide⟩
        have hat103 : cl103.slots[((1 : Int32)).toNatClampNeg]? = some (.long c0) := H103 1 (by rw [S103]; decide)
        have K104 : ∀ target, Steps p.tables e below (T102.setTop (mkF m 28 #[.val (.ref u0), .val (.int (3 : Int32)), .val (.long c3), .second, .val (.int (1 : Int32))] [(.int (lcmpW c0 c3))])) target → Steps p.tables e below (T94.setTop (mkF m 31 #[.val (.ref u0), .val (.int (3 : Int32)), .val (.long c3), .second, .val (.int (2 : Int32))] [])) target := by
          intro target kt
          show Steps p.tables e below (T94.setTop (mkF m 31 #[.val (.ref u0), .val (.int (3 : Int32)), .val (.long c3), .second, .val (.int (2 : Int32))] [])) _
          refine XS.aloadN X94.here hx rfl (hb hby d3_31) rfl rfl ?_
          show Steps p.tables e below (T94.setTop (mkF m 32 #[.val (.ref u0), .val (.int (3 : Int32)), .val (.long c3), .second, .val (.int (2 : Int32))] [(.ref u0)])) _
          refine XS.iload X94.here hx rfl (hb hby d3_32) rfl ?_
          show Steps p.tables e below (T94.setTop (mkF m 34 #[.val (.ref u0), .val (.int (3 : Int32)), .val (.long c3), .second, .val (.int (2 : Int32))] [(.int (2 : Int32)), (.ref u0)])) _
          refine XS.iconst X94.here hx rfl (hb hby d3_34) ?_
          show Steps p.tables e below (T94.setTop (mkF m 35 #[.val (.ref u0), .val (.int (3 : Int32)), .val (.long c3), .second, .val (.int (2 : Int32))] [(.int (1 : Int32)), (.int (2 : Int32)), (.ref u0)])) _
          refine XS.iadd X94.here hx rfl (hb hby d3_35) rfl ?_
          rw [show ((2 : Int32) + (1 : Int32)) = (3 : Int32) from by decide]
          show Steps p.tables e below (T94.setTop (mkF m 36 #[.val (.ref u0), .val (.int (3 : Int32)), .val (.long c3), .second, .val (.int (2 : Int32))] [(.int (3 : Int32)), (.ref u0)])) _
          refine XS.aloadN X94.here hx rfl (hb hby d3_36) rfl rfl ?_
          show Steps p.tables e below (T94.setTop (mkF m 37 #[.val (.ref u0), .val (.int (3 : Int32)), .val (.long c3), .second, .val (.int (2 : Int32))] [(.ref u0), (.int (3 : Int32)), (.ref u0)])) _
          refine XS.iload X94.here hx rfl (hb hby d3_37) rfl ?_
          show Steps p.tables e below (T94.setTop (mkF m 39 #[.val (.ref u0), .val (.int (3 : Int32)), .val (.long c3), .second, .val (.int (2 : Int32))] [(.int (2 : Int32)), (.ref u0), (.int (3 : Int32)), (.ref u0)])) _
          refine X94.laload hx (j := (2 : Int32)) (v := (.long c2)) (by rw [e94]; exact Ar100.1) (State.isArrayOf_alike hZ.alike Ar100.2.1) Ar100.2.2 hin100 hat100 (g := (mkF m 39 #[.val (.ref u0), .val (.int (3 : Int32)), .val (.long c3), .second, .val (.int (2 : Int32))] [(.int (2 : Int32)), (.ref u0), (.int (3 : Int32)), (.ref u0)])) rfl rfl (hb hby d3_39) _ ?_
          show Steps p.tables e below (T94.setTop (mkF m 40 #[.val (.ref u0), .val (.int (3 : Int32)), .val (.long c3), .second, .val (.int (2 : Int32))] [(.long c2), (.int (3 : Int32)), (.ref u0)])) _
          refine st102 _ ?_
          show Steps p.tables e below (T102.setTop (mkF m 41 #[.val (.ref u0), .val (.int (3 : Int32)), .val (.long c3), .second, .val (.int (2 : Int32))] [])) _
          refine XS.iinc X102.here hx rfl (hb hby d3_41) rfl (l' := #[.val (.ref u0), .val (.int (3 : Int32)), .val (.long c3), .second, .val (.int ((2 : Int32) + (-1 : Int32)))]) rfl ?_
          rw [show ((2 : Int32) + (-1 : Int32)) = (1 : Int32) from by decide]
          show Steps p.tables e below (T102.setTop (mkF m 44 #[.val (.ref u0), .val (.int (3 : Int32)), .val (.long c3), .second, .val (.int (1 : Int32))] [])) _
          refine XS.goto X102.here hx rfl (pc0 := 44) (pc' := 17) rfl (hb hby d3_44) (by decide) (by decide) ?_
          show Steps p.tables e below (T102.setTop (mkF m 17 #[.val (.ref u0), .val (.int (3 : Int32)), .val (.long c3), .second, .val (.int (1 : Int32))] [])) _
          refine XS.iload X102.here hx rfl (hb hby d3_17) rfl ?_
          show Steps p.tables e below (T102.setTop (mkF m 19 #[.val (.ref u0), .val (.int (3 : Int32)), .val (.long c3), .second, .val (.int (1 : Int32))] [(.int (1 : Int32))])) _
          refine XS.ifNo X102.here hx rfl (hb hby d3_19) rfl ((if0 _ _).trans (flt (by decide : ¬ ((1 : Int32) < (0 : Int32)))).1) ?_
          show Steps p.tables e below (T102.setTop (mkF m 22 #[.val (.ref u0), .val (.int (3 : Int32)), .val (.long c3), .second, .val (.int (1 : Int32))] [])) _
          refine XS.aloadN X102.here hx rfl (hb hby d3_22) rfl rfl ?_
          show Steps p.tables e below (T102.setTop (mkF m 23 #[.val (.ref u0), .val (.int (3 : Int32)), .val (.long c3), .second, .val (.int (1 : Int32))] [(.ref u0)])) _
          refine XS.iload X102.here hx rfl (hb hby d3_23) rfl ?_
          show Steps p.tables e below (T102.setTop (mkF m 25 #[.val (.ref u0), .val (.int (3 : Int32)), .val (.long c3), .second, .val (.int (1 : Int32))] [(.int (1 : Int32)), (.ref u0)])) _
          refine X102.laload hx (j := (1 : Int32)) (v := (.long c0)) (by rw [e102]; exact Ar103.1) (State.isArrayOf_alike hZ.alike Ar103.2.1) Ar103.2.2 hin103 hat103 (g := (mkF m 25 #[.val (.ref u0), .val (.int (3 : Int32)), .val (.long c3), .second, .val (.int (1 : Int32))] [(.int (1 : Int32)), (.ref u0)])) rfl rfl (hb hby d3_25) _ ?_
          show Steps p.tables e below (T102.setTop (mkF m 26 #[.val (.ref u0), .val (.int (3 : Int32)), .val (.long c3), .second, .val (.int (1 : Int32))] [(.long c0)])) _
          refine XS.lloadN X102.here hx rfl (hb hby d3_26) rfl ?_
          show Steps p.tables e below (T102.setTop (mkF m 27 #[.val (.ref u0), .val (.int (3 : Int32)), .val (.long c3), .second, .val (.int (1 : Int32))] [(.long c3), (.long c0)])) _
          refine XS.lcmp X102.here hx rfl (hb hby d3_27) rfl ?_
          exact kt
        refine Done.of ?_ K104
        by_cases hc28_105 : c0 < c3
        · have K : ∀ target, Steps p.tables e below (T102.setTop (mkF m 31 #[.val (.ref u0), .val (.int (3 : Int32)), .val (.long c3), .second, .val (.int (1 : Int32))] [])) target → Steps p.tables e below (T102.setTop (mkF m 28 #[.val (.ref u0), .val (.int (3 : Int32)), .val (.long c3), .second, .val (.int (1 : Int32))] [(.int (lcmpW c0 c3))])) target := by
            intro target kt
            refine XS.ifNo X102.here hx rfl (hb hby d3_28) rfl ((if0 _ _).trans (tlt ((lw_lt c0 c3).mpr hc28_105)).2.1) ?_
            exact kt
          refine Done.of ?_ K
          obtain ⟨cl106, Ar106, qq106, S106, M106, H106, G106⟩ := id V102
          have hin106 : ¬ ((1 : Int32) < 0 ∨ cl106.slots.size ≤ ((1 : Int32)).toNatClampNeg) := inb_of S106 ⟨by decide, by decide⟩
          have hat106 : cl106.slots[((1 : Int32)).toNatClampNeg]? = some (.long c0) := H106 1 (by rw [S106]; decide)
          obtain ⟨cl107, Ar107, qq107, S107, M107, H107, G107⟩ := id V102
          have hin107 : ¬ ((2 : Int32) < 0 ∨ cl107.slots.size ≤ ((2 : Int32)).toNatClampNeg) := inb_of S107 ⟨by decide, by decide⟩
          obtain ⟨T108, h108, X108, e108, W108, st108⟩ := stJ X102 hx hZ e102 Ar107 (j := (2 : Int32)) hin107 (g := (mkF m 40 #[.val (.ref u0), .val (.int (3 : Int32)), .val (.long c3), .second, .val (.int (1 : Int32))] [(.long c0), (.int (2 : Int32)), (.ref u0)])) rfl rfl (hb hby d3_40)
          have V108 : Arv Z h108 u0 kA .long (4 : Int32) [(.long c1), (.long c0), (.long c0), (.long c2)] _ := Arv.set Ar107 qq107 S107 M107 H107 G107 rfl W108 2 rfl (Nat.le_of_ble_eq_true rfl)
          have N108 := Fr.snoc X108 N102 g0
          have Z108 : n0 ≤ h108.size := Nat.le_trans Z102 (Nat.le_of_eq W108.size.symm)
          have Kp108 := Kp102.wr W108 (Or.inl (List.mem_of_getElem? (i := 0) rfl))
          obtain ⟨cl109, Ar109, qq109, S109, M109, H109, G109⟩ := id V108
          have hin109 : ¬ ((0 : Int32) < 0 ∨ cl109.slots.size ≤ ((0 : Int32)).toNatClampNeg) := inb_of S109 ⟨by decide, by decide⟩
          have hat109 : cl109.slots[((0 : Int32)).toNatClampNeg]? = some (.long c1) := H109 0 (by rw [S109]; decide)
          have K110 : ∀ target, Steps p.tables e below (T108.setTop (mkF m 28 #[.val (.ref u0), .val (.int (3 : Int32)), .val (.long c3), .second, .val (.int (0 : Int32))] [(.int (lcmpW c1 c3))])) target → Steps p.tables e below (T102.setTop (mkF m 31 #[.val (.ref u0), .val (.int (3 : Int32)), .val (.long c3), .second, .val (.int (1 : Int32))] [])) target := by
            intro target kt
            show Steps p.tables e below (T102.setTop (mkF m 31 #[.val (.ref u0), .val (.int (3 : Int32)), .val (.long c3), .second, .val (.int (1 : Int32))] [])) _
            refine XS.aloadN X102.here hx rfl (hb hby d3_31) rfl rfl ?_
            show Steps p.tables e below (T102.setTop (mkF m 32 #[.val (.ref u0), .val (.int (3 : Int32)), .val (.long c3), .second, .val (.int (1 : Int32))] [(.ref u0)])) _
            refine XS.iload X102.here hx rfl (hb hby d3_32) rfl ?_
            show Steps p.tables e below (T102.setTop (mkF m 34 #[.val (.ref u0), .val (.int (3 : Int32)), .val (.long c3), .second, .val (.int (1 : Int32))] [(.int (1 : Int32)), (.ref u0)])) _
            refine XS.iconst X102.here hx rfl (hb hby d3_34) ?_
            show Steps p.tables e below (T102.setTop (mkF m 35 #[.val (.ref u0), .val (.int (3 : Int32)), .val (.long c3), .second, .val (.int (1 : Int32))] [(.int (1 : Int32)), (.int (1 : Int32)), (.ref u0)])) _
            refine XS.iadd X102.here hx rfl (hb hby d3_35) rfl ?_
            rw [show ((1 : Int32) + (1 : Int32)) = (2 : Int32) from by decide]
            show Steps p.tables e below (T102.setTop (mkF m 36 #[.val (.ref u0), .val (.int (3 : Int32)), .val (.long c3), .second, .val (.int (1 : Int32))] [(.int (2 : Int32)), (.ref u0)])) _
            refine XS.aloadN X102.here hx rfl (hb hby d3_36) rfl rfl ?_
            show Steps p.tables e below (T102.setTop (mkF m 37 #[.val (.ref u0), .val (.int (3 : Int32)), .val (.long c3), .second, .val (.int (1 : Int32))] [(.ref u0), (.int (2 : Int32)), (.ref u0)])) _
            refine XS.iload X102.here hx rfl (hb hby d3_37) rfl ?_
            show Steps p.tables e below (T102.setTop (mkF m 39 #[.val (.ref u0), .val (.int (3 : Int32)), .val (.long c3), .second, .val (.int (1 : Int32))] [(.int (1 : Int32)), (.ref u0), (.int (2 : Int32)), (.ref u0)])) _
            refine X102.laload hx (j := (1 : Int32)) (v := (.long c0)) (by rw [e102]; exact Ar106.1) (State.isArrayOf_alike hZ.alike Ar106.2.1) Ar106.2.2 hin106 hat106 (g := (mkF m 39 #[.val (.ref u0), .val (.int (3 : Int32)), .val (.long c3), .second, .val (.int (1 : Int32))] [(.int (1 : Int32)), (.ref u0), (.int (2 : Int32)), (.ref u0)])) rfl rfl (hb hby d3_39) _ ?_
            show Steps p.tables e below (T102.setTop (mkF m 40 #[.val (.ref u0), .val (.int (3 : Int32)), .val (.long c3), .second, .val (.int (1 : Int32))] [(.long c0), (.int (2 : Int32)), (.ref u0)])) _
            refine st108 _ ?_
            show Steps p.tables e below (T108.setTop (mkF m 41 #[.val (.ref u0), .val (.int (3 : Int32)), .val (.long c3), .second, .val (.int (1 : Int32))] [])) _
            refine XS.iinc X108.here hx rfl (hb hby d3_41) rfl (l' := #[.val (.ref u0), .val (.int (3 : Int32)), .val (.long c3), .second, .val (.int ((1 : Int32) + (-1 : Int32)))]) rfl ?_
            rw [show ((1 : Int32) + (-1 : Int32)) = (0 : Int32) from by decide]
            show Steps p.tables e below (T108.setTop (mkF m 44 #[.val (.ref u0), .val (.int (3 : Int32)), .val (.long c3), .second, .val (.int (0 : Int32))] [])) _
            refine XS.goto X108.here hx rfl (pc0 := 44) (pc' := 17) rfl (hb hby d3_44) (by decide) (by decide) ?_
            show Steps p.tables e below (T108.setTop (mkF m 17 #[.val (.ref u0), .val (.int (3 : Int32)), .val (.long c3), .second, .val (.int (0 : Int32))] [])) _
            refine XS.iload X108.here hx rfl (hb hby d3_17) rfl ?_
            show Steps p.tables e below (T108.setTop (mkF m 19 #[.val (.ref u0), .val (.int (3 : Int32)), .val (.long c3), .second, .val (.int (0 : Int32))] [(.int (0 : Int32))])) _
            refine XS.ifNo X108.here hx rfl (hb hby d3_19) rfl ((if0 _ _).trans (flt (by decide : ¬ ((0 : Int32) < (0 : Int32)))).1) ?_
            show Steps p.tables e below (T108.setTop (mkF m 22 #[.val (.ref u0), .val (.int (3 : Int32)), .val (.long c3), .second, .val (.int (0 : Int32))] [])) _
            refine XS.aloadN X108.here hx rfl (hb hby d3_22) rfl rfl ?_
            show Steps p.tables e below (T108.setTop (mkF m 23 #[.val (.ref u0), .val (.int (3 : Int32)), .val (.long c3), .second, .val (.int (0 : Int32))] [(.ref u0)])) _
            refine XS.iload X108.here hx rfl (hb hby d3_23) rfl ?_
            show Steps p.tables e below (T108.setTop (mkF m 25 #[.val (.ref u0), .val (.int (3 : Int32)), .val (.long c3), .second, .val (.int (0 : Int32))] [(.int (0 : Int32)), (.ref u0)])) _
            refine X108.laload hx (j := (0 : Int32)) (v := (.long c1)) (by rw [e108]; exact Ar109.1) (State.isArrayOf_alike hZ.alike Ar109.2.1) Ar109.2.2 hin109 hat109 (g := (mkF m 25 #[.val (.ref u0), .val (.int (3 : Int32)), .val (.long c3), .second, .val (.int (0 : Int32))] [(.int (0 : Int32)), (.ref u0)])) rfl rfl (hb hby d3_25) _ ?_
            show Steps p.tables e below (T108.setTop (mkF m 26 #[.val (.ref u0), .val (.int (3 : Int32)), .val (.long c3), .second, .val (.int (0 : Int32))] [(.long c1)])) _
            refine XS.lloadN X108.here hx rfl (hb hby d3_26) rfl ?_
            show Steps p.tables e below (T108.setTop (mkF m 27 #[.val (.ref u0), .val (.int (3 : Int32)), .val (.long c3), .second, .val (.int (0 : Int32))] [(.long c3), (.long c1)])) _
            refine XS.lcmp X108.here hx rfl (hb hby d3_27) rfl ?_
            exact kt
          refine Done.of ?_ K110
          by_cases hc28_111 : c1 < c3
          · have K : ∀ target, Steps p.tables e below (T108.setTop (mkF m 31 #[.val (.ref u0), .val (.int (3 : Int32)), .val (.long c3), .second, .val (.int (0 : Int32))] [])) target → Steps p.tables e below (T108.setTop (mkF m 28 #[.val (.ref u0), .val (.int (3 : Int32)), .val (.long c3), .second, .val (.int (0 : Int32))] [(.int (lcmpW c1 c3))])) target := by
              intro target kt
              refine XS.ifNo X108.here hx rfl (hb hby d3_28) rfl ((if0 _ _).trans (tlt ((lw_lt c1 c3).mpr hc28_111)).2.1) ?_
              exact kt
            refine Done.of ?_ K
            obtain ⟨cl112, Ar112, qq112, S112, M112, H112, G112⟩ := id V108
            have hin112 : ¬ ((0 : Int32) < 0 ∨ cl112.slots.size ≤ ((0 : Int32)).toNatClampNeg) := inb_of S112 ⟨by decide, by decide⟩
            have hat112 : cl112.slots[((0 : Int32)).toNatClampNeg]? = some (.long c1) := H112 0 (by rw [S112]; decide)
            obtain ⟨cl113, Ar113, qq113, S113, M113, H113, G113⟩ := id V108
            have hin113 : ¬ ((1 : Int32) < 0 ∨ cl113.slots.size ≤ ((1 : Int32)).toNatClampNeg) := inb_of S113 ⟨by decide, by decide⟩
            obtain ⟨T114, h114, X114, e114, W114, st114⟩ := stJ X108 hx hZ e108 Ar113 (j := (1 : Int32)) hin113 (g := (mkF m 40 #[.val (.ref u0), .val (.int (3 : Int32)), .val (.long c3), .second, .val (.int (0 : Int32))] [(.long c1), (.int (1 : Int32)), (.ref u0)])) rfl rfl (hb hby d3_40)
            have V114 : Arv Z h114 u0 kA .long (4 : Int32) [(.long c1), (.long c1), (.long c0), (.long c2)] _ := Arv.set Ar113 qq113 S113 M113 H113 G113 rfl W114 1 rfl (Nat.le_of_ble_eq_true rfl)
            have N114 := Fr.snoc X114 N108 g0
            have Z114 : n0 ≤ h114.size := Nat.le_trans Z108 (Nat.le_of_eq W114.size.symm)
            have Kp114 := Kp108.wr W114 (Or.inl (List.mem_of_getElem? (i := 0) rfl))
            obtain ⟨cl115, Ar115, qq115, S115, M115, H115, G115⟩ := id V114
            have hin115 : ¬ ((0 : Int32) < 0 ∨ cl115.slots.size ≤ ((0 : Int32)).toNatClampNeg) := inb_of S115 ⟨by decide, by decide⟩
            obtain ⟨T116, h116, X116, e116, W116, st116⟩ := stJ X114 hx hZ e114 Ar115 (j := (0 : Int32)) hin115 (g := (mkF m 53 #[.val (.ref u0), .val (.int (3 : Int32)), .val (.long c3), .second, .val (.int (-1 : Int32))] [(.long c3), (.int (0 : Int32)), (.ref u0)])) rfl rfl (hb hby d3_53)
            have V116 : Arv Z h116 u0 kA .long (4 : Int32) [(.long c3), (.long c1), (.long c0), (.long c2)] _ := Arv.set Ar115 qq115 S115 M115 H115 G115 rfl W116 0 rfl (Nat.le_of_ble_eq_true rfl)
            have N116 := Fr.snoc X116 N114 g0
            have Z116 : n0 ≤ h116.size := Nat.le_trans Z114 (Nat.le_of_eq W116.size.symm)
            have Kp116 := Kp114.wr W116 (Or.inl (List.mem_of_getElem? (i := 0) rfl))
            obtain ⟨cl117, Ar117, qq117, S117, M117, H117, G117⟩ := id V116
            obtain ⟨fs, hr, hrun, hended, hW, hsame⟩ := X116.leave (v := none) (fun _ => rfl)
            refine ⟨_, _, ?_, hrun, hended, _, _, rfl, ?_, ⟨_, rfl⟩, hW, hsame.mono (by decide) (by decide)⟩
            · show Steps p.tables e below (T108.setTop (mkF m 31 #[.val (.ref u0), .val (.int (3 : Int32)), .val (.long c3), .second, .val (.int (0 : Int32))] [])) _
              refine XS.aloadN X108.here hx rfl (hb hby d3_31) rfl rfl ?_
              show Steps p.tables e below (T108.setTop (mkF m 32 #[.val (.ref u0), .val (.int (3 : Int32)), .val (.long c3), .second, .val (.int (0 : Int32))] [(.ref u0)])) _
              refine XS.iload X108.here hx rfl (hb hby d3_32) rfl ?_
              show Steps p.tables e below (T108.setTop (mkF m 34 #[.val (.ref u0), .val (.int (3 : Int32)), .val (.long c3), .second, .val (.int (0 : Int32))] [(.int (0 : Int32)), (.ref u0)])) _
              refine XS.iconst X108.here hx rfl (hb hby d3_34) ?_
              show Steps p.tables e below (T108.setTop (mkF m 35 #[.val (.ref u0), .val (.int (3 : Int32)), .val (.long c3), .second, .val (.int (0 : Int32))] [(.int (1 : Int32)), (.int (0 : Int32)), (.ref u0)])) _
              refine XS.iadd X108.here hx rfl (hb hby d3_35) rfl ?_
              rw [show ((0 : Int32) + (1 : Int32)) = (1 : Int32) from by decide]
              show Steps p.tables e below (T108.setTop (mkF m 36 #[.val (.ref u0), .val (.int (3 : Int32)), .val (.long c3), .second, .val (.int (0 : Int32))] [(.int (1 : Int32)), (.ref u0)])) _
              refine XS.aloadN X108.here hx rfl (hb hby d3_36) rfl rfl ?_
              show Steps p.tables e below (T108.setTop (mkF m 37 #[.val (.ref u0), .val (.int (3 : Int32)), .val (.long c3), .second, .val (.int (0 : Int32))] [(.ref u0), (.int (1 : Int32)), (.ref u0)])) _
              refine XS.iload X108.here hx rfl (hb hby d3_37) rfl ?_
              show Steps p.tables e below (T108.setTop (mkF m 39 #[.val (.ref u0), .val (.int (3 : Int32)), .val (.long c3), .second, .val (.int (0 : Int32))] [(.int (0 : Int32)), (.ref u0), (.int (1 : Int32)), (.ref u0)])) _
              refine X108.laload hx (j := (0 : Int32)) (v := (.long c1)) (by rw [e108]; exact Ar112.1) (State.isArrayOf_alike hZ.alike Ar112.2.1) Ar112.2.2 hin112 hat112 (g := (mkF m 39 #[.val (.ref u0), .val (.int (3 : Int32)), .val (.long c3), .second, .val (.int (0 : Int32))] [(.int (0 : Int32)), (.ref u0), (.int (1 : Int32)), (.ref u0)])) rfl rfl (hb hby d3_39) _ ?_
              show Steps p.tables e below (T108.setTop (mkF m 40 #[.val (.ref u0), .val (.int (3 : Int32)), .val (.long c3), .second, .val (.int (0 : Int32))] [(.long c1), (.int (1 : Int32)), (.ref u0)])) _
              refine st114 _ ?_
              show Steps p.tables e below (T114.setTop (mkF m 41 #[.val (.ref u0), .val (.int (3 : Int32)), .val (.long c3), .second, .val (.int (0 : Int32))] [])) _
              refine XS.iinc X114.here hx rfl (hb hby d3_41) rfl (l' := #[.val (.ref u0), .val (.int (3 : Int32)), .val (.long c3), .second, .val (.int ((0 : Int32) + (-1 : Int32)))]) rfl ?_
              rw [show ((0 : Int32) + (-1 : Int32)) = (-1 : Int32) from by decide]
              show Steps p.tables e below (T114.setTop (mkF m 44 #[.val (.ref u0), .val (.int (3 : Int32)), .val (.long c3), .second, .val (.int (-1 : Int32))] [])) _
              refine XS.goto X114.here hx rfl (pc0 := 44) (pc' := 17) rfl (hb hby d3_44) (by decide) (by decide) ?_
              show Steps p.tables e below (T114.setTop (mkF m 17 #[.val (.ref u0), .val (.int (3 : Int32)), .val (.long c3), .second, .val (.int (-1 : Int32))] [])) _
              refine XS.iload X114.here hx rfl (hb hby d3_17) rfl ?_
              show Steps p.tables e below (T114.setTop (mkF m 19 #[.val (.ref u0), .val (.int (3 : Int32)), .val (.long c3), .second, .val (.int (-1 : Int32))] [(.int (-1 : Int32))])) _
              refine XS.ifYes X114.here hx rfl (pc0 := 19) (pc' := 47) rfl (hb hby d3_19) rfl ((if0 _ _).trans (tlt (by decide : (-1 : Int32) < (0 : Int32))).1) (by decide) (by decide) ?_
              show Steps p.tables e below (T114.setTop (mkF m 47 #[.val (.ref u0), .val (.int (3 : Int32)), .val (.long c3), .second, .val (.int (-1 : Int32))] [])) _
              refine XS.aloadN X114.here hx rfl (hb hby d3_47) rfl rfl ?_
              show Steps p.tables e below (T114.setTop (mkF m 48 #[.val (.ref u0), .val (.int (3 : Int32)), .val (.long c3), .second, .val (.int (-1 : Int32))] [(.ref u0)])) _
              refine XS.iload X114.here hx rfl (hb hby d3_48) rfl ?_
              show Steps p.tables e below (T114.setTop (mkF m 50 #[.val (.ref u0), .val (.int (3 : Int32)), .val (.long c3), .second, .val (.int (-1 : Int32))] [(.int (-1 : Int32)), (.ref u0)])) _
              refine XS.iconst X114.here hx rfl (hb hby d3_50) ?_
              show Steps p.tables e below (T114.setTop (mkF m 51 #[.val (.ref u0), .val (.int (3 : Int32)), .val (.long c3), .second, .val (.int (-1 : Int32))] [(.int (1 : Int32)), (.int (-1 : Int32)), (.ref u0)])) _
              refine XS.iadd X114.here hx rfl (hb hby d3_51) rfl ?_
              rw [show ((-1 : Int32) + (1 : Int32)) = (0 : Int32) from by decide]
              show Steps p.tables e below (T114.setTop (mkF m 52 #[.val (.ref u0), .val (.int (3 : Int32)), .val (.long c3), .second, .val (.int (-1 : Int32))] [(.int (0 : Int32)), (.ref u0)])) _
              refine XS.lloadN X114.here hx rfl (hb hby d3_52) rfl ?_
              show Steps p.tables e below (T114.setTop (mkF m 53 #[.val (.ref u0), .val (.int (3 : Int32)), .val (.long c3), .second, .val (.int (-1 : Int32))] [(.long c3), (.int (0 : Int32)), (.ref u0)])) _
              refine st116 _ ?_
              show Steps p.tables e below (T116.setTop (mkF m 54 #[.val (.ref u0), .val (.int (3 : Int32)), .val (.long c3), .second, .val (.int (-1 : Int32))] [])) _
              refine XS.iinc X116.here hx rfl (hb hby d3_54) rfl (l' := #[.val (.ref u0), .val (.int ((3 : Int32) + (1 : Int32))), .val (.long c3), .second, .val (.int (-1 : Int32))]) rfl ?_
              rw [show ((3 : Int32) + (1 : Int32)) = (4 : Int32) from by decide]
              show Steps p.tables e below (T116.setTop (mkF m 57 #[.val (.ref u0), .val (.int (4 : Int32)), .val (.long c3), .second, .val (.int (-1 : Int32))] [])) _
              refine XS.goto X116.here hx rfl (pc0 := 57) (pc' := 2) rfl (hb hby d3_57) (by decide) (by decide) ?_
              show Steps p.tables e below (T116.setTop (mkF m 2 #[.val (.ref u0), .val (.int (4 : Int32)), .val (.long c3), .second, .val (.int (-1 : Int32))] [])) _
              refine XS.iloadN X116.here hx rfl (hb hby d3_2) rfl ?_
              show Steps p.tables e below (T116.setTop (mkF m 3 #[.val (.ref u0), .val (.int (4 : Int32)), .val (.long c3), .second, .val (.int (-1 : Int32))] [(.int (4 : Int32))])) _
              refine XS.aloadN X116.here hx rfl (hb hby d3_3) rfl rfl ?_
              show Steps p.tables e below (T116.setTop (mkF m 4 #[.val (.ref u0), .val (.int (4 : Int32)), .val (.long c3), .second, .val (.int (-1 : Int32))] [(.ref u0), (.int (4 : Int32))])) _
              refine X116.arraylength hx (by rw [e116]; exact Ar117.1) (State.isArrayOf_alike hZ.alike Ar117.2.1) (g := (mkF m 4 #[.val (.ref u0), .val (.int (4 : Int32)), .val (.long c3), .second, .val (.int (-1 : Int32))] [(.ref u0), (.int (4 : Int32))])) rfl rfl (hb hby d3_4) _ ?_
              rw [len_of S117 M117]
              show Steps p.tables e below (T116.setTop (mkF m 5 #[.val (.ref u0), .val (.int (4 : Int32)), .val (.long c3), .second, .val (.int (-1 : Int32))] [(.int (4 : Int32)), (.int (4 : Int32))])) _
              refine XS.icmpYes X116.here hx rfl (pc0 := 5) (pc' := 60) rfl (hb hby d3_5) rfl (flt (by decide : ¬ ((4 : Int32) < (4 : Int32)))).2.1 (by decide) (by decide) ?_
              show Steps p.tables e below (T116.setTop (mkF m 60 #[.val (.ref u0), .val (.int (4 : Int32)), .val (.long c3), .second, .val (.int (-1 : Int32))] [])) _
              exact X116.returnOut hx Bd.returns (hb hby d3_60) hr
            · show Q3n4 Z u0 kA dv c0 c1 c2 c3 h0 n0 _ T116.heap _
              rw [e116]
              have k0 := Int64.lt_iff_toInt_lt.mp hc28_5
              have k1 := mt Int64.lt_iff_toInt_lt.mpr hc28_15
              have k2 := Int64.lt_iff_toInt_lt.mp hc28_99
              have k3 := Int64.lt_iff_toInt_lt.mp hc28_105
              have k4 := Int64.lt_iff_toInt_lt.mp hc28_111
              have r0 : (own_X (own_X c0 c1) (own_X c2 c3)) = c3 := by
                apply Int64.toInt_inj.mp
                simp only [own_xi, own_ni]
                omega
              have r1 : (own_X (own_X (own_N c0 c1) (own_N c2 c3)) (own_N (own_X c0 c1) (own_X c2 c3))) = c1 := by
                apply Int64.toInt_inj.mp
                simp only [own_xi, own_ni]
                omega
              have r2 : (own_N (own_X (own_N c0 c1) (own_N c2 c3)) (own_N (own_X c0 c1) (own_X c2 c3))) = c0 := by
                apply Int64.toInt_inj.mp
                simp only [own_xi, own_ni]
                omega
              have r3 : (own_N (own_N c0 c1) (own_N c2 c3)) = c2 := by
                apply Int64.toInt_inj.mp
                simp only [own_xi, own_ni]
                omega
              refine ⟨rfl, N116, Kp116, ?_⟩
              rw [r0, r1, r2, r3]
              exact V116
          · have K : ∀ target, Steps p.tables e below (T108.setTop (mkF m 47 #[.val (.ref u0), .val (.int (3 : Int32)), .val (.long c3), .second, .val (.int (0 : Int32))] [])) target → Steps p.tables e below (T108.setTop (mkF m 28 #[.val (.ref u0), .val (.int (3 : Int32)), .val (.long c3), .second, .val (.int (0 : Int32))] [(.int (lcmpW c1 c3))])) target := by
              intro target kt
              refine XS.ifYes X108.here hx rfl (pc0 := 28) (pc' := 47) rfl (hb hby d3_28) rfl ((if0 _ _).trans (flt (fun q => hc28_111 ((lw_lt c1 c3).mp q))).2.1) (by decide) (by decide) ?_
              exact kt
            refine Done.of ?_ K
            obtain ⟨cl118, Ar118, qq118, S118, M118, H118, G118⟩ := id V108
            have hin118 : ¬ ((1 : Int32) < 0 ∨ cl118.slots.size ≤ ((1 : Int32)).toNatClampNeg) := inb_of S118 ⟨by decide, by decide⟩
            obtain ⟨T119, h119, X119, e119, W119, st119⟩ := stJ X108 hx hZ e108 Ar118 (j := (1 : Int32)) hin118 (g := (mkF m 53 #[.val (.ref u0), .val (.int (3 : Int32)), .val (.long c3), .second, .val (.int (0 : Int32))] [(.long c3), (.int (1 : Int32)), (.ref u0)])) rfl rfl (hb hby d3_53)
            have V119 : Arv Z h119 u0 kA .long (4 : Int32) [(.long c1), (.long c3), (.long c0), (.long c2)] _ := Arv.set Ar118 qq118 S118 M118 H118 G118 rfl W119 1 rfl (Nat.le_of_ble_eq_true rfl)
            have N119 := Fr.snoc X119 N108 g0
            have Z119 : n0 ≤ h119.size := Nat.le_trans Z108 (Nat.le_of_eq W119.size.symm)
            have Kp119 := Kp108.wr W119 (Or.inl (List.mem_of_getElem? (i := 0) rfl))
            obtain ⟨cl120, Ar120, qq120, S120, M120, H120, G120⟩ := id V119
            obtain ⟨fs, hr, hrun, hended, hW, hsame⟩ := X119.leave (v := none) (fun _ => rfl)
            refine ⟨_, _, ?_, hrun, hended, _, _, rfl, ?_, ⟨_, rfl⟩, hW, hsame.mono (by decide) (by decide)⟩
            · show Steps p.tables e below (T108.setTop (mkF m 47 #[.val (.ref u0), .val (.int (3 : Int32)), .val (.long c3), .second, .val (.int (0 : Int32))] [])) _
              refine XS.aloadN X108.here hx rfl (hb hby d3_47) rfl rfl ?_
              show Steps p.tables e below (T108.setTop (mkF m 48 #[.val (.ref u0), .val (.int (3 : Int32)), .val (.long c3), .second, .val (.int (0 : Int32))] [(.ref u0)])) _
              refine XS.iload X108.here hx rfl (hb hby d3_48) rfl ?_
              show Steps p.tables e below (T108.setTop (mkF m 50 #[.val (.ref u0), .val (.int (3 : Int32)), .val (.long c3), .second, .val (.int (0 : Int32))] [(.int (0 : Int32)), (.ref u0)])) _
              refine XS.iconst X108.here hx rfl (hb hby d3_50) ?_
              show Steps p.tables e below (T108.setTop (mkF m 51 #[.val (.ref u0), .val (.int (3 : Int32)), .val (.long c3), .second, .val (.int (0 : Int32))] [(.int (1 : Int32)), (.int (0 : Int32)), (.ref u0)])) _
              refine XS.iadd X108.here hx rfl (hb hby d3_51) rfl ?_
              rw [show ((0 : Int32) + (1 : Int32)) = (1 : Int32) from by decide]
              show Steps p.tables e below (T108.setTop (mkF m 52 #[.val (.ref u0), .val (.int (3 : Int32)), .val (.long c3), .second, .val (.int (0 : Int32))] [(.int (1 : Int32)), (.ref u0)])) _
              refine XS.lloadN X108.here hx rfl (hb hby d3_52) rfl ?_
              show Steps p.tables e below (T108.setTop (mkF m 53 #[.val (.ref u0), .val (.int (3 : Int32)), .val (.long c3), .second, .val (.int (0 : Int32))] [(.long c3), (.int (1 : Int32)), (.ref u0)])) _
              refine st119 _ ?_
              show Steps p.tables e below (T119.setTop (mkF m 54 #[.val (.ref u0), .val (.int (3 : Int32)), .val (.long c3), .second, .val (.int (0 : Int32))] [])) _
              refine XS.iinc X119.here hx rfl (hb hby d3_54) rfl (l' := #[.val (.ref u0), .val (.int ((3 : Int32) + (1 : Int32))), .val (.long c3), .second, .val (.int (0 : Int32))]) rfl ?_
              rw [show ((3 : Int32) + (1 : Int32)) = (4 : Int32) from by decide]
              show Steps p.tables e below (T119.setTop (mkF m 57 #[.val (.ref u0), .val (.int (4 : Int32)), .val (.long c3), .second, .val (.int (0 : Int32))] [])) _
              refine XS.goto X119.here hx rfl (pc0 := 57) (pc' := 2) rfl (hb hby d3_57) (by decide) (by decide) ?_
              show Steps p.tables e below (T119.setTop (mkF m 2 #[.val (.ref u0), .val (.int (4 : Int32)), .val (.long c3), .second, .val (.int (0 : Int32))] [])) _
              refine XS.iloadN X119.here hx rfl (hb hby d3_2) rfl ?_
              show Steps p.tables e below (T119.setTop (mkF m 3 #[.val (.ref u0), .val (.int (4 : Int32)), .val (.long c3), .second, .val (.int (0 : Int32))] [(.int (4 : Int32))])) _
              refine XS.aloadN X119.here hx rfl (hb hby d3_3) rfl rfl ?_
              show Steps p.tables e below (T119.setTop (mkF m 4 #[.val (.ref u0), .val (.int (4 : Int32)), .val (.long c3), .second, .val (.int (0 : Int32))] [(.ref u0), (.int (4 : Int32))])) _
              refine X119.arraylength hx (by rw [e119]; exact Ar120.1) (State.isArrayOf_alike hZ.alike Ar120.2.1) (g := (mkF m 4 #[.val (.ref u0), .val (.int (4 : Int32)), .val (.long c3), .second, .val (.int (0 : Int32))] [(.ref u0), (.int (4 : Int32))])) rfl rfl (hb hby d3_4) _ ?_
              rw [len_of S120 M120]
              show Steps p.tables e below (T119.setTop (mkF m 5 #[.val (.ref u0), .val (.int (4 : Int32)), .val (.long c3), .second, .val (.int (0 : Int32))] [(.int (4 : Int32)), (.int (4 : Int32))])) _
              refine XS.icmpYes X119.here hx rfl (pc0 := 5) (pc' := 60) rfl (hb hby d3_5) rfl (flt (by decide : ¬ ((4 : Int32) < (4 : Int32)))).2.1 (by decide) (by decide) ?_
              show Steps p.tables e below (T119.setTop (mkF m 60 #[.val (.ref u0), .val (.int (4 : Int32)), .val (.long c3), .second, .val (.int (0 : Int32))] [])) _
              exact X119.returnOut hx Bd.returns (hb hby d3_60) hr
            · show Q3n4 Z u0 kA dv c0 c1 c2 c3 h0 n0 _ T119.heap _
              rw [e119]
              have k0 := Int64.lt_iff_toInt_lt.mp hc28_5
              have k1 := mt Int64.lt_iff_toInt_lt.mpr hc28_15
              have k2 := Int64.lt_iff_toInt_lt.mp hc28_99
              have k3 := Int64.lt_iff_toInt_lt.mp hc28_105
              have k4 := mt Int64.lt_iff_toInt_lt.mpr hc28_111
              have r0 : (own_X (own_X c0 c1) (own_X c2 c3)) = c1 := by
                apply Int64.toInt_inj.mp
                simp only [own_xi, own_ni]
                omega
              have r1 : (own_X (own_X (own_N c0 c1) (own_N c2 c3)) (own_N (own_X c0 c1) (own_X c2 c3))) = c3 := by
                apply Int64.toInt_inj.mp
                simp only [own_xi, own_ni]
                omega
              have r2 : (own_N (own_X (own_N c0 c1) (own_N c2 c3)) (own_N (own_X c0 c1) (own_X c2 c3))) = c0 := by
                apply Int64.toInt_inj.mp
                simp only [own_xi, own_ni]
                omega
              have r3 : (own_N (own_N c0 c1) (own_N c2 c3)) = c2 := by
                apply Int64.toInt_inj.mp
                simp only [own_xi, own_ni]
                omega
              refine ⟨rfl, N119, Kp119, ?_⟩
              rw [r0, r1, r2, r3]
              exact V119
        · have K : ∀ target, Steps p.tables e below (T102.setTop (mkF m 47 #[.val (.ref u0), .val (.int (3 : Int32)), .val (.long c3), .second, .val (.int (1 : Int32))] [])) target → Steps p.tables e below (T102.setTop (mkF m 28 #[.val (.ref u0), .val (.int (3 : Int32)), .val (.long c3), .second, .val (.int (1 : Int32))] [(.int (lcmpW c0 c3))])) target := by
            intro target kt
            refine XS.ifYes X102.here hx rfl (pc0 := 28) (pc' := 47) rfl (hb hby d3_28) rfl ((if0 _ _).trans (flt (fun q => hc28_105 ((lw_lt c0 c3).mp q))).2.1) (by decide) (by decide) ?_
            exact kt
          refine Done.of ?_ K
          obtain ⟨cl121, Ar121, qq121, S121, M121, H121, G121⟩ := id V102
          have hin121 : ¬ ((2 : Int32) < 0 ∨ cl121.slots.size ≤ ((2 : Int32)).toNatClampNeg) := inb_of S121 ⟨by decide, by decide⟩
          obtain ⟨T122, h122, X122, e122, W122, st122⟩ := stJ X102 hx hZ e102 Ar121 (j := (2 : Int32)) hin121 (g := (mkF m 53 #[.val (.ref u0), .val (.int (3 : Int32)), .val (.long c3), .second, .val (.int (1 : Int32))] [(.long c3), (.int (2 : Int32)), (.ref u0)])) rfl rfl (hb hby d3_53)
          have V122 : Arv Z h122 u0 kA .long (4 : Int32) [(.long c1), (.long c0), (.long c3), (.long c2)] _ := Arv.set Ar121 qq121 S121 M121 H121 G121 rfl W122 2 rfl (Nat.le_of_ble_eq_true rfl)
          have N122 := Fr.snoc X122 N102 g0
          have Z122 : n0 ≤ h122.size := Nat.le_trans Z102 (Nat.le_of_eq W122.size.symm)
          have Kp122 := Kp102.wr W122 (Or.inl (List.mem_of_getElem? (i := 0) rfl))
          obtain ⟨cl123, Ar123, qq123, S123, M123, H123, G123⟩ := id V122
          obtain ⟨fs, hr, hrun, hended, hW, hsame⟩ := X122.leave (v := none) (fun _ => rfl)
          refine ⟨_, _, ?_, hrun, hended, _, _, rfl, ?_, ⟨_, rfl⟩, hW, hsame.mono (by decide) (by decide)⟩
          · show Steps p.tables e below (T102.setTop (mkF m 47 #[.val (.ref u0), .val (.int (3 : Int32)), .val (.long c3), .second, .val (.int (1 : Int32))] [])) _
            refine XS.aloadN X102.here hx rfl (hb hby d3_47) rfl rfl ?_
            show Steps p.tables e below (T102.setTop (mkF m 48 #[.val (.ref u0), .val (.int (3 : Int32)), .val (.long c3), .second, .val (.int (1 : Int32))] [(.ref u0)])) _
            refine XS.iload X102.here hx rfl (hb hby d3_48) rfl ?_
            show Steps p.tables e below (T102.setTop (mkF m 50 #[.val (.ref u0), .val (.int (3 : Int32)), .val (.long c3), .second, .val (.int (1 : Int32))] [(.int (1 : Int32)), (.ref u0)])) _
            refine XS.iconst X102.here hx rfl (hb hby d3_50) ?_
            show Steps p.tables e below (T102.setTop (mkF m 51 #[.val (.ref u0), .val (.int (3 : Int32)), .val (.long c3), .second, .val (.int (1 : Int32))] [(.int (1 : Int32)), (.int (1 : Int32)), (.ref u0)])) _
            refine XS.iadd X102.here hx rfl (hb hby d3_51) rfl ?_
            rw [show ((1 : Int32) + (1 : Int32)) = (2 : Int32) from by decide]
            show Steps p.tables e below (T102.setTop (mkF m 52 #[.val (.ref u0), .val (.int (3 : Int32)), .val (.long c3), .second, .val (.int (1 : Int32))] [(.int (2 : Int32)), (.ref u0)])) _
            refine XS.lloadN X102.here hx rfl (hb hby d3_52) rfl ?_
            show Steps p.tables e below (T102.setTop (mkF m 53 #[.val (.ref u0), .val (.int (3 : Int32)), .val (.long c3), .second, .val (.int (1 : Int32))] [(.long c3), (.int (2 : Int32)), (.ref u0)])) _
            refine st122 _ ?_
            show Steps p.tables e below (T122.setTop (mkF m 54 #[.val (.ref u0), .val (.int (3 : Int32)), .val (.long c3), .second, .val (.int (1 : Int32))] [])) _
            refine XS.iinc X122.here hx rfl (hb hby d3_54) rfl (l' := #[.val (.ref u0), .val (.int ((3 : Int32) + (1 : Int32))), .val (.long c3), .second, .val (.int (1 : Int32))]) rfl ?_
            rw [show ((3 : Int32) + (1 : Int32)) = (4 : Int32) from by decide]
            show Steps p.tables e below (T122.setTop (mkF m 57 #[.val (.ref u0), .val (.int (4 : Int32)), .val (.long c3), .second, .val (.int (1 : Int32))] [])) _
            refine XS.goto X122.here hx rfl (pc0 := 57) (pc' := 2) rfl (hb hby d3_57) (by decide) (by decide) ?_
            show Steps p.tables e below (T122.setTop (mkF m 2 #[.val (.ref u0), .val (.int (4 : Int32)), .val (.long c3), .second, .val (.int (1 : Int32))] [])) _
            refine XS.iloadN X122.here hx rfl (hb hby d3_2) rfl ?_
            show Steps p.tables e below (T122.setTop (mkF m 3 #[.val (.ref u0), .val (.int (4 : Int32)), .val (.long c3), .second, .val (.int (1 : Int32))] [(.int (4 : Int32))])) _
            refine XS.aloadN X122.here hx rfl (hb hby d3_3) rfl rfl ?_
            show Steps p.tables e below (T122.setTop (mkF m 4 #[.val (.ref u0), .val (.int (4 : Int32)), .val (.long c3), .second, .val (.int (1 : Int32))] [(.ref u0), (.int (4 : Int32))])) _
            refine X122.arraylength hx (by rw [e122]; exact Ar123.1) (State.isArrayOf_alike hZ.alike Ar123.2.1) (g := (mkF m 4 #[.val (.ref u0), .val (.int (4 : Int32)), .val (.long c3), .second, .val (.int (1 : Int32))] [(.ref u0), (.int (4 : Int32))])) rfl rfl (hb hby d3_4) _ ?_
            rw [len_of S123 M123]
            show Steps p.tables e below (T122.setTop (mkF m 5 #[.val (.ref u0), .val (.int (4 : Int32)), .val (.long c3), .second, .val (.int (1 : Int32))] [(.int (4 : Int32)), (.int (4 : Int32))])) _
            refine XS.icmpYes X122.here hx rfl (pc0 := 5) (pc' := 60) rfl (hb hby d3_5) rfl (flt (by decide : ¬ ((4 : Int32) < (4 : Int32)))).2.1 (by decide) (by decide) ?_
            show Steps p.tables e below (T122.setTop (mkF m 60 #[.val (.ref u0), .val (.int (4 : Int32)), .val (.long c3), .second, .val (.int (1 : Int32))] [])) _
            exact X122.returnOut hx Bd.returns (hb hby d3_60) hr
          · show Q3n4 Z u0 kA dv c0 c1 c2 c3 h0 n0 _ T122.heap _
            rw [e122]
            have k0 := Int64.lt_iff_toInt_lt.mp hc28_5
            have k1 := mt Int64.lt_iff_toInt_lt.mpr hc28_15
            have k2 := Int64.lt_iff_toInt_lt.mp hc28_99
            have k3 := mt Int64.lt_iff_toInt_lt.mpr hc28_105
            have r0 : (own_X (own_X c0 c1) (own_X c2 c3)) = c1 := by
              apply Int64.toInt_inj.mp
              simp only [own_xi, own_ni]
              omega
            have r1 : (own_X (own_X (own_N c0 c1) (own_N c2 c3)) (own_N (own_X c0 c1) (own_X c2 c3))) = c0 := by
              apply Int64.toInt_inj.mp
              simp only [own_xi, own_ni]
              omega
            have r2 : (own_N (own_X (own_N c0 c1) (own_N c2 c3)) (own_N (own_X c0 c1) (own_X c2 c3))) = c3 := by
              apply Int64.toInt_inj.mp
              simp only [own_xi, own_ni]
              omega
            have r3 : (own_N (own_N c0 c1) (own_N c2 c3)) = c2 := by
              apply Int64.toInt_inj.mp
              simp only [own_xi, own_ni]
              omega
            refine ⟨rfl, N122, Kp122, ?_⟩
            rw [r0, r1, r2, r3]
            exact V122
      · have K : ∀ target, Steps p.tables e below (T94.setTop (mkF m 47 #[.val (.ref u0), .val (.int (3 : Int32)), .val (.long c3), .second, .val (.int (2 : Int32))] [])) target → Steps p.tables e below (T94.setTop (mkF m 28 #[.val (.ref u0), .val (.int (3 : Int32)), .val (.long c3), .second, .val (.int (2 : Int32))] [(.int (lcmpW c2 c3))])) target := by
          intro target kt
          refine XS.ifYes X94.here hx rfl (pc0 := 28) (pc' := 47) rfl (hb hby d3_28) rfl ((if0 _ _).trans (flt (fun q => hc28_99 ((lw_lt c2 c3).mp q))).2.1) (by decide) (by decide) ?_
          exact kt
        refine Done.of ?_ K
        obtain ⟨cl124, Ar124, qq124, S124, M124, H124, G124⟩ := id V94
        have hin124 : ¬ ((3 : Int32) < 0 ∨ cl124.slots.size ≤ ((3 : Int32)).toNatClampNeg) := inb_of S124 ⟨by decide, by decide⟩
        obtain ⟨T125, h125, X125, e125, W125, st125⟩ := stJ X94 hx hZ e94 Ar124 (j := (3 : Int32)) hin124 (g := (mkF m 53 #[.val (.ref u0), .val (.int (3 : Int32)), .val (.long c3), .second, .val (.int (2 : Int32))] [(.long c3), (.int (3 : Int32)), (.ref u0)])) rfl rfl (hb hby d3_53)
        have V125 : Arv Z h125 u0 kA .long (4 : Int32) [(.long c1), (.long c0), (.long c2), (.long c3)] _ := Arv.set Ar124 qq124 S124 M124 H124 G124 rfl W125 3 rfl (Nat.le_of_ble_eq_true rfl)
        have N125 := Fr.snoc X125 N94 g0
        have Z125 : n0 ≤ h125.size := Nat.le_trans Z94 (Nat.le_of_eq W125.size.symm)
        have Kp125 := Kp94.wr W125 (Or.inl (List.mem_of_getElem? (i := 0) rfl))
        obtain ⟨cl126, Ar126, qq126, S126, M126, H126, G126⟩ := id V125
        obtain ⟨fs, hr, hrun, hended, hW, hsame⟩ := X125.leave (v := none) (fun _ => rfl)
        refine ⟨_, _, ?_, hrun, hended, _, _, rfl, ?_, ⟨_, rfl⟩, hW, hsame.mono (by decide) (by decide)⟩
        · show Steps p.tables e below (T94.setTop (mkF m 47 #[.val (.ref u0), .val (.int (3 : Int32)), .val (.long c3), .second, .val (.int (2 : Int32))] [])) _
          refine XS.aloadN X94.here hx rfl (hb hby d3_47) rfl rfl ?_
          show Steps p.tables e below (T94.setTop (mkF m 48 #[.val (.ref u0), .val (.int (3 : Int32)), .val (.long c3), .second, .val (.int (2 : Int32))] [(.ref u0)])) _
          refine XS.iload X94.here hx rfl (hb hby d3_48) rfl ?_
          show Steps p.tables e below (T94.setTop (mkF m 50 #[.val (.ref u0), .val (.int (3 : Int32)), .val (.long c3), .second, .val (.int (2 : Int32))] [(.int (2 : Int32)), (.ref u0)])) _
          refine XS.iconst X94.here hx rfl (hb hby d3_50) ?_
          show Steps p.tables e below (T94.setTop (mkF m 51 #[.val (.ref u0), .val (.int (3 : Int32)), .val (.long c3), .second, .val (.int (2 : Int32))] [(.int (1 : Int32)), (.int (2 : Int32)), (.ref u0)])) _
          refine XS.iadd X94.here hx rfl (hb hby d3_51) rfl ?_
          rw [show ((2 : Int32) + (1 : Int32)) = (3 : Int32) from by decide]
          show Steps p.tables e below (T94.setTop (mkF m 52 #[.val (.ref u0), .val (.int (3 : Int32)), .val (.long c3), .second, .val (.int (2 : Int32))] [(.int (3 : Int32)), (.ref u0)])) _
          refine XS.lloadN X94.here hx rfl (hb hby d3_52) rfl ?_
          show Steps p.tables e below (T94.setTop (mkF m 53 #[.val (.ref u0), .val (.int (3 : Int32)), .val (.long c3), .second, .val (.int (2 : Int32))] [(.long c3), (.int (3 : Int32)), (.ref u0)])) _
          refine st125 _ ?_
          show Steps p.tables e below (T125.setTop (mkF m 54 #[.val (.ref u0), .val (.int (3 : Int32)), .val (.long c3), .second, .val (.int (2 : Int32))] [])) _
          refine XS.iinc X125.here hx rfl (hb hby d3_54) rfl (l' := #[.val (.ref u0), .val (.int ((3 : Int32) + (1 : Int32))), .val (.long c3), .second, .val (.int (2 : Int32))]) rfl ?_
          rw [show ((3 : Int32) + (1 : Int32)) = (4 : Int32) from by decide]
          show Steps p.tables e below (T125.setTop (mkF m 57 #[.val (.ref u0), .val (.int (4 : Int32)), .val (.long c3), .second, .val (.int (2 : Int32))] [])) _
          refine XS.goto X125.here hx rfl (pc0 := 57) (pc' := 2) rfl (hb hby d3_57) (by decide) (by decide) ?_
          show Steps p.tables e below (T125.setTop (mkF m 2 #[.val (.ref u0), .val (.int (4 : Int32)), .val (.long c3), .second, .val (.int (2 : Int32))] [])) _
          refine XS.iloadN X125.here hx rfl (hb hby d3_2) rfl ?_
          show Steps p.tables e below (T125.setTop (mkF m 3 #[.val (.ref u0), .val (.int (4 : Int32)), .val (.long c3), .second, .val (.int (2 : Int32))] [(.int (4 : Int32))])) _
          refine XS.aloadN X125.here hx rfl (hb hby d3_3) rfl rfl ?_
          show Steps p.tables e below (T125.setTop (mkF m 4 #[.val (.ref u0), .val (.int (4 : Int32)), .val (.long c3), .second, .val (.int (2 : Int32))] [(.ref u0), (.int (4 : Int32))])) _
          refine X125.arraylength hx (by rw [e125]; exact Ar126.1) (State.isArrayOf_alike hZ.alike Ar126.2.1) (g := (mkF m 4 #[.val (.ref u0), .val (.int (4 : Int32)), .val (.long c3), .second, .val (.int (2 : Int32))] [(.ref u0), (.int (4 : Int32))])) rfl rfl (hb hby d3_4) _ ?_
          rw [len_of S126 M126]
          show Steps p.tables e below (T125.setTop (mkF m 5 #[.val (.ref u0), .val (.int (4 : Int32)), .val (.long c3), .second, .val (.int (2 : Int32))] [(.int (4 : Int32)), (.int (4 : Int32))])) _
          refine XS.icmpYes X125.here hx rfl (pc0 := 5) (pc' := 60) rfl (hb hby d3_5) rfl (flt (by decide : ¬ ((4 : Int32) < (4 : Int32)))).2.1 (by decide) (by decide) ?_
          show Steps p.tables e below (T125.setTop (mkF m 60 #[.val (.ref u0), .val (.int (4 : Int32)), .val (.long c3), .second, .val (.int (2 : Int32))] [])) _
          exact X125.returnOut hx Bd.returns (hb hby d3_60) hr
        · show Q3n4 Z u0 kA dv c0 c1 c2 c3 h0 n0 _ T125.heap _
          rw [e125]
          have k0 := Int64.lt_iff_toInt_lt.mp hc28_5
          have k1 := mt Int64.lt_iff_toInt_lt.mpr hc28_15
          have k2 := mt Int64.lt_iff_toInt_lt.mpr hc28_99
          have r0 : (own_X (own_X c0 c1) (own_X c2 c3)) = c1 := by
            apply Int64.toInt_inj.mp
            simp only [own_xi, own_ni]
            omega
          have r1 : (own_X (own_X (own_N c0 c1) (own_N c2 c3)) (own_N (own_X c0 c1) (own_X c2 c3))) = c0 := by
            apply Int64.toInt_inj.mp
            simp only [own_xi, own_ni]
            omega
          have r2 : (own_N (own_X (own_N c0 c1) (own_N c2 c3)) (own_N (own_X c0 c1) (own_X c2 c3))) = c2 := by
            apply Int64.toInt_inj.mp
            simp only [own_xi, own_ni]
            omega
          have r3 : (own_N (own_N c0 c1) (own_N c2 c3)) = c3 := by
            apply Int64.toInt_inj.mp
            simp only [own_xi, own_ni]
            omega
          refine ⟨rfl, N125, Kp125, ?_⟩
          rw [r0, r1, r2, r3]
          exact V125
  · have K : ∀ target, Steps p.tables e below (s₁.setTop (mkF m 47 #[.val (.ref u0), .val (.int (1 : Int32)), .val (.long c1), .second, .val (.int (0 : Int32))] [])) target → Steps p.tables e below (s₁.setTop (mkF m 28 #[.val (.ref u0), .val (.int (1 : Int32)), .val (.long c1), .second, .val (.int (0 : Int32))] [(.int (lcmpW c0 c1))])) target := by
      intro target kt
      refine XS.ifYes X0.here hx rfl (pc0 := 28) (pc' := 47) rfl (hb hby d3_28) rfl ((if0 _ _).trans (flt (fun q => hc28_5 ((lw_lt c0 c1).mp q))).2.1) (by decide) (by decide) ?_
      exact kt
    refine Done.of ?_ K
    obtain ⟨cl127, Ar127, qq127, S127, M127, H127, G127⟩ := id V0
    have hin127 : ¬ ((1 : Int32) < 0 ∨ cl127.slots.size ≤ ((1 : Int32)).toNatClampNeg) := inb_of S127 ⟨by decide, by decide⟩
    obtain ⟨T128, h128, X128, e128, W128, st128⟩ := stJ X0 hx hZ e0 Ar127 (j := (1 : Int32)) hin127 (g := (mkF m 53 #[.val (.ref u0), .val (.int (1 : Int32)), .val (.long c1), .second, .val (.int (0 : Int32))] [(.long c1), (.int (1 : Int32)), (.ref u0)])) rfl rfl (hb hby d3_53)
    have V128 : Arv Z h128 u0 kA .long (4 : Int32) [(.long c0), (.long c1), (.long c2), (.long c3)] _ := Arv.set Ar127 qq127 S127 M127 H127 G127 rfl W128 1 rfl (Nat.le_of_ble_eq_true rfl)
    have N128 := Fr.snoc X128 N0 g0
    have Z128 : n0 ≤ h128.size := Nat.le_trans Z0 (Nat.le_of_eq W128.size.symm)
    have Kp128 := (Keep.refl h0 [u0]).wr W128 (Or.inl (List.mem_of_getElem? (i := 0) rfl))
    obtain ⟨cl129, Ar129, qq129, S129, M129, H129, G129⟩ := id V128
    obtain ⟨cl130, Ar130, qq130, S130, M130, H130, G130⟩ := id V128
    have hin130 : ¬ ((2 : Int32) < 0 ∨ cl130.slots.size ≤ ((2 : Int32)).toNatClampNeg) := inb_of S130 ⟨by decide, by decide⟩
    have hat130 : cl130.slots[((2 : Int32)).toNatClampNeg]? = some (.long c2) := H130 2 (by rw [S130]; decide)
    obtain ⟨cl131, Ar131, qq131, S131, M131, H131, G131⟩ := id V128
    have hin131 : ¬ ((1 : Int32) < 0 ∨ cl131.slots.size ≤ ((1 : Int32)).toNatClampNeg) := inb_of S131 ⟨by decide, by decide⟩
    have hat131 : cl131.slots[((1 : Int32)).toNatClampNeg]? = some (.long c1) := H131 1 (by rw [S131]; decide)
    have K132 : ∀ target, Steps p.tables e below (T128.setTop (mkF m 28 #[.val (.ref u0), .val (.int (2 : Int32)), .val (.long c2), .second, .val (.int (1 : Int32))] [(.int (lcmpW c1 c2))])) target → Steps p.tables e below (s₁.setTop (mkF m 47 #[.val (.ref u0), .val (.int (1 : Int32)), .val (.long c1), .second, .val (.int (0 : Int32))] [])) target := by
      intro target kt
      show Steps p.tables e below (s₁.setTop (mkF m 47 #[.val (.ref u0), .val (.int (1 : Int32)), .val (.long c1), .second, .val (.int (0 : Int32))] [])) _
      refine XS.aloadN X0.here hx rfl (hb hby d3_47) rfl rfl ?_
      show Steps p.tables e below (s₁.setTop (mkF m 48 #[.val (.ref u0), .val (.int (1 : Int32)), .val (.long c1), .second, .val (.int (0 : Int32))] [(.ref u0)])) _
      refine XS.iload X0.here hx rfl (hb hby d3_48) rfl ?_
      show Steps p.tables e below (s₁.setTop (mkF m 50 #[.val (.ref u0), .val (.int (1 : Int32)), .val (.long c1), .second, .val (.int (0 : Int32))] [(.int (0 : Int32)), (.ref u0)])) _
      refine XS.iconst X0.here hx rfl (hb hby d3_50) ?_
      show Steps p.tables e below (s₁.setTop (mkF m 51 #[.val (.ref u0), .val (.int (1 : Int32)), .val (.long c1), .second, .val (.int (0 : Int32))] [(.int (1 : Int32)), (.int (0 : Int32)), (.ref u0)])) _
      refine XS.iadd X0.here hx rfl (hb hby d3_51) rfl ?_
      rw [show ((0 : Int32) + (1 : Int32)) = (1 : Int32) from by decide]
      show Steps p.tables e below (s₁.setTop (mkF m 52 #[.val (.ref u0), .val (.int (1 : Int32)), .val (.long c1), .second, .val (.int (0 : Int32))] [(.int (1 : Int32)), (.ref u0)])) _
      refine XS.lloadN X0.here hx rfl (hb hby d3_52) rfl ?_
      show Steps p.tables e below (s₁.setTop (mkF m 53 #[.val (.ref u0), .val (.int (1 : Int32)), .val (.long c1), .second, .val (.int (0 : Int32))] [(.long c1), (.int (1 : Int32)), (.ref u0)])) _
      refine st128 _ ?_
      show Steps p.tables e below (T128.setTop (mkF m 54 #[.val (.ref u0), .val (.int (1 : Int32)), .val (.long c1), .second, .val (.int (0 : Int32))] [])) _
      refine XS.iinc X128.here hx rfl (hb hby d3_54) rfl (l' := #[.val (.ref u0), .val (.int ((1 : Int32) + (1 : Int32))), .val (.long c1), .second, .val (.int (0 : Int32))]) rfl ?_
      rw [show ((1 : Int32) + (1 : Int32)) = (2 : Int32) from by decide]
      show Steps p.tables e below (T128.setTop (mkF m 57 #[.val (.ref u0), .val (.int (2 : Int32)), .val (.long c1), .second, .val (.int (0 : Int32))] [])) _
      refine XS.goto X128.here hx rfl (pc0 := 57) (pc' := 2) rfl (hb hby d3_57) (by decide) (by decide) ?_
      show Steps p.tables e below (T128.setTop (mkF m 2 #[.val (.ref u0), .val (.int (2 : Int32)), .val (.long c1), .second, .val (.int (0 : Int32))] [])) _
      refine XS.iloadN X128.here hx rfl (hb hby d3_2) rfl ?_
      show Steps p.tables e below (T128.setTop (mkF m 3 #[.val (.ref u0), .val (.int (2 : Int32)), .val (.long c1), .second, .val (.int (0 : Int32))] [(.int (2 : Int32))])) _
      refine XS.aloadN X128.here hx rfl (hb hby d3_3) rfl rfl ?_
      show Steps p.tables e below (T128.setTop (mkF m 4 #[.val (.ref u0), .val (.int (2 : Int32)), .val (.long c1), .second, .val (.int (0 : Int32))] [(.ref u0), (.int (2 : Int32))])) _
      refine X128.arraylength hx (by rw [e128]; exact Ar129.1) (State.isArrayOf_alike hZ.alike Ar129.2.1) (g := (mkF m 4 #[.val (.ref u0), .val (.int (2 : Int32)), .val (.long c1), .second, .val (.int (0 : Int32))] [(.ref u0), (.int (2 : Int32))])) rfl rfl (hb hby d3_4) _ ?_
      rw [len_of S129 M129]
      show Steps p.tables e below (T128.setTop (mkF m 5 #[.val (.ref u0), .val (.int (2 : Int32)), .val (.long c1), .second, .val (.int (0 : Int32))] [(.int (4 : Int32)), (.int (2 : Int32))])) _
      refine XS.icmpNo X128.here hx rfl (hb hby d3_5) rfl (tlt (by decide : (2 : Int32) < (4 : Int32))).2.1 ?_
      show Steps p.tables e below (T128.setTop (mkF m 8 #[.val (.ref u0), .val (.int (2 : Int32)), .val (.long c1), .second, .val (.int (0 : Int32))] [])) _
      refine XS.aloadN X128.here hx rfl (hb hby d3_8) rfl rfl ?_
      show Steps p.tables e below (T128.setTop (mkF m 9 #[.val (.ref u0), .val (.int (2 : Int32)), .val (.long c1), .second, .val (.int (0 : Int32))] [(.ref u0)])) _
      refine XS.iloadN X128.here hx rfl (hb hby d3_9) rfl ?_
      show Steps p.tables e below (T128.setTop (mkF m 10 #[.val (.ref u0), .val (.int (2 : Int32)), .val (.long c1), .second, .val (.int (0 : Int32))] [(.int (2 : Int32)), (.ref u0)])) _
      refine X128.laload hx (j := (2 : Int32)) (v := (.long c2)) (by rw [e128]; exact Ar130.1) (State.isArrayOf_alike hZ.alike Ar130.2.1) Ar130.2.2 hin130 hat130 (g := (mkF m 10 #[.val (.ref u0), .val (.int (2 : Int32)), .val (.long c1), .second, .val (.int (0 : Int32))] [(.int (2 : Int32)), (.ref u0)])) rfl rfl (hb hby d3_10) _ ?_
      show Steps p.tables e below (T128.setTop (mkF m 11 #[.val (.ref u0), .val (.int (2 : Int32)), .val (.long c1), .second, .val (.int (0 : Int32))] [(.long c2)])) _
      refine XS.lstoreN X128.here hx rfl (hb hby d3_11) rfl (l' := #[.val (.ref u0), .val (.int (2 : Int32)), .val (.long c2), .second, .val (.int (0 : Int32))]) rfl ?_
      show Steps p.tables e below (T128.setTop (mkF m 12 #[.val (.ref u0), .val (.int (2 : Int32)), .val (.long c2), .second, .val (.int (0 : Int32))] [])) _
      refine XS.iloadN X128.here hx rfl (hb hby d3_12) rfl ?_
      show Steps p.tables e below (T128.setTop (mkF m 13 #[.val (.ref u0), .val (.int (2 : Int32)), .val (.long c2), .second, .val (.int (0 : Int32))] [(.int (2 : Int32))])) _
      refine XS.iconst X128.here hx rfl (hb hby d3_13) ?_
      show Steps p.tables e below (T128.setTop (mkF m 14 #[.val (.ref u0), .val (.int (2 : Int32)), .val (.long c2), .second, .val (.int (0 : Int32))] [(.int (1 : Int32)), (.int (2 : Int32))])) _
      refine XS.isub X128.here hx rfl (hb hby d3_14) rfl ?_
      rw [show ((2 : Int32) - (1 : Int32)) = (1 : Int32) from by decide]
      show Steps p.tables e below (T128.setTop (mkF m 15 #[.val (.ref u0), .val (.int (2 : Int32)), .val (.long c2), .second, .val (.int (0 : Int32))] [(.int (1 : Int32))])) _
      refine XS.istore X128.here hx rfl (hb hby d3_15) rfl (l' := #[.val (.ref u0), .val (.int (2 : Int32)), .val (.long c2), .second, .val (.int (1 : Int32))]) rfl ?_
      show Steps p.tables e below (T128.setTop (mkF m 17 #[.val (.ref u0), .val (.int (2 : Int32)), .val (.long c2), .second, .val (.int (1 : Int32))] [])) _
      refine XS.iload X128.here hx rfl (hb hby d3_17) rfl ?_
      show Steps p.tables e below (T128.setTop (mkF m 19 #[.val (.ref u0), .val (.int (2 : Int32)), .val (.long c2), .second, .val (.int (1 : Int32))] [(.int (1 : Int32))])) _
      refine XS.ifNo X128.here hx rfl (hb hby d3_19) rfl ((if0 _ _).trans (flt (by decide : ¬ ((1 : Int32) < (0 : Int32)))).1) ?_
      show Steps p.tables e below (T128.setTop (mkF m 22 #[.val (.ref u0), .val (.int (2 : Int32)), .val (.long c2), .second, .val (.int (1 : Int32))] [])) _
      refine XS.aloadN X128.here hx rfl (hb hby d3_22) rfl rfl ?_
      show Steps p.tables e below (T128.setTop (mkF m 23 #[.val (.ref u0), .val (.int (2 : Int32)), .val (.long c2), .second, .val (.int (1 : Int32))] [(.ref u0)])) _
      refine XS.iload X128.here hx rfl (hb hby d3_23) rfl ?_
      show Steps p.tables e below (T128.setTop (mkF m 25 #[.val (.ref u0), .val (.int (2 : Int32)), .val (.long c2), .second, .val (.int (1 : Int32))] [(.int (1 : Int32)), (.ref u0)])) _
      refine X128.laload hx (j := (1 : Int32)) (v := (.long c1)) (by rw [e128]; exact Ar131.1) (State.isArrayOf_alike hZ.alike Ar131.2.1) Ar131.2.2 hin131 hat131 (g := (mkF m 25 #[.val (.ref u0), .val (.int (2 : Int32)), .val (.long c2), .second, .val (.int (1 : Int32))] [(.int (1 : Int32)), (.ref u0)])) rfl rfl (hb hby d3_25) _ ?_
      show Steps p.tables e below (T128.setTop (mkF m 26 #[.val (.ref u0), .val (.int (2 : Int32)), .val (.long c2), .second, .val (.int (1 : Int32))] [(.long c1)])) _
      refine XS.lloadN X128.here hx rfl (hb hby d3_26) rfl ?_
      show Steps p.tables e below (T128.setTop (mkF m 27 #[.val (.ref u0), .val (.int (2 : Int32)), .val (.long c2), .second, .val (.int (1 : Int32))] [(.long c2), (.long c1)])) _
      refine XS.lcmp X128.here hx rfl (hb hby d3_27) rfl ?_
      exact kt
    refine Done.of ?_ K132
    by_cases hc28_133 : c1 < c2
    · have K : ∀ target, Steps p.tables e below (T128.setTop (mkF m 31 #[.val (.ref u0), .val (.int (2 : Int32)), .val (.long c2), .second, .val (.int (1 : Int32))] [])) target → Steps p.tables e below (T128.setTop (mkF m 28 #[.val (.ref u0), .val (.int (2 : Int32)), .val (.long c2), .second, .val (.int (1 : Int32))] [(.int (lcmpW c1 c2))])) target := by
        intro target kt
        refine XS.ifNo X128.here hx rfl (hb hby d3_28) rfl ((if0 _ _).trans (tlt ((lw_lt c1 c2).mpr hc28_133)).2.1) ?_
        exact kt
      refine Done.of ?_ K
      obtain ⟨cl134, Ar134, qq134, S134, M134, H134, G134⟩ := id V128
      have hin134 : ¬ ((1 : Int32) < 0 ∨ cl134.slots.size ≤ ((1 : Int32)).toNatClampNeg) := inb_of S134 ⟨by decide, by decide⟩
      have hat134 : cl134.slots[((1 : Int32)).toNatClampNeg]? = some (.long c1) := H134 1 (by rw [S134]; decide)
      obtain ⟨cl135, Ar135, qq135, S135, M135, H135, G135⟩ := id V128
      have hin135 : ¬ ((2 : Int32) < 0 ∨ cl135.slots.size ≤ ((2 : Int32)).toNatClampNeg) := inb_of S135 ⟨by decide, by decide⟩
      obtain ⟨T136, h136, X136, e136, W136, st136⟩ := stJ X128 hx hZ e128 Ar135 (j := (2 : Int32)) hin135 (g := (mkF m 40 #[.val (.ref u0), .val (.int (2 : Int32)), .val (.long c2), .second, .val (.int (1 : Int32))] [(.long c1), (.int (2 : Int32)), (.ref u0)])) rfl rfl (hb hby d3_40)
      have V136 : Arv Z h136 u0 kA .long (4 : Int32) [(.long c0), (.long c1), (.long c1), (.long c3)] _ := Arv.set Ar135 qq135 S135 M135 H135 G135 rfl W136 2 rfl (Nat.le_of_ble_eq_true rfl)
      have N136 := Fr.snoc X136 N128 g0
      have Z136 : n0 ≤ h136.size := Nat.le_trans Z128 (Nat.le_of_eq W136.size.symm)
      have Kp136 := Kp128.wr W136 (Or.inl (List.mem_of_getElem? (i := 0) rfl))
      obtain ⟨cl137, Ar137, qq137, S137, M137, H137, G137⟩ := id V136
      have hin137 : ¬ ((0 : Int32) < 0 ∨ cl137.slots.size ≤ ((0 : Int32)).toNatClampNeg) := inb_of S137 ⟨by decide, by decide⟩
      have hat137 : cl137.slots[((0 : Int32)).toNatClampNeg]? = some (.long c0) := H137 0 (by rw [S137]; decide)
      have K138 : ∀ target, Steps p.tables e below (T136.setTop (mkF m 28 #[.val (.ref u0), .val (.int (2 : Int32)), .val (.long c2), .second, .val (.int (0 : Int32))] [(.int (lcmpW c0 c2))])) target → Steps p.tables e below (T128.setTop (mkF m 31 #[.val (.ref u0), .val (.int (2 : Int32)), .val (.long c2), .second, .val (.int (1 : Int32))] [])) target := by
        intro target kt
        show Steps p.tables e below (T128.setTop (mkF m 31 #[.val (.ref u0), .val (.int (2 : Int32)), .val (.long c2), .second, .val (.int (1 : Int32))] [])) _
        refine XS.aloadN X128.here hx rfl (hb hby d3_31) rfl rfl ?_
        show Steps p.tables e below (T128.setTop (mkF m 32 #[.val (.ref u0), .val (.int (2 : Int32)), .val (.long c2), .second, .val (.int (1 : Int32))] [(.ref u0)])) _
        refine XS.iload X128.here hx rfl (hb hby d3_32) rfl ?_
        show Steps p.tables e below (T128.setTop (mkF m 34 #[.val (.ref u0), .val (.int (2 : Int32)), .val (.long c2), .second, .val (.int (1 : Int32))] [(.int (1 : Int32)), (.ref u0)])) _
        refine XS.iconst X128.here hx rfl (hb hby d3_34) ?_
        show Steps p.tables e below (T128.setTop (mkF m 35 #[.val (.ref u0), .val (.int (2 : Int32)), .val (.long c2), .second, .val (.int (1 : Int32))] [(.int (1 : Int32)), (.int (1 : Int32)), (.ref u0)])) _
        refine XS.iadd X128.here hx rfl (hb hby d3_35) rfl ?_
        rw [show ((1 : Int32) + (1 : Int32)) = (2 : Int32) from by decide]
        show Steps p.tables e below (T128.setTop (mkF m 36 #[.val (.ref u0), .val (.int (2 : Int32)), .val (.long c2), .second, .val (.int (1 : Int32))] [(.int (2 : Int32)), (.ref u0)])) _
        refine XS.aloadN X128.here hx rfl (hb hby d3_36) rfl rfl ?_
        show Steps p.tables e below (T128.setTop (mkF m 37 #[.val (.ref u0), .val (.int (2 : Int32)), .val (.long c2), .second, .val (.int (1 : Int32))] [(.ref u0), (.int (2 : Int32)), (.ref u0)])) _
        refine XS.iload X128.here hx rfl (hb hby d3_37) rfl ?_
        show Steps p.tables e below (T128.setTop (mkF m 39 #[.val (.ref u0), .val (.int (2 : Int32)), .val (.long c2), .second, .val (.int (1 : Int32))] [(.int (1 : Int32)), (.ref u0), (.int (2 : Int32)), (.ref u0)])) _
        refine X128.laload hx (j := (1 : Int32)) (v := (.long c1)) (by rw [e128]; exact Ar134.1) (State.isArrayOf_alike hZ.alike Ar134.2.1) Ar134.2.2 hin134 hat134 (g := (mkF m 39 #[.val (.ref u0), .val (.int (2 : Int32)), .val (.long c2), .second, .val (.int (1 : Int32))] [(.int (1 : Int32)), (.ref u0), (.int (2 : Int32)), (.ref u0)])) rfl rfl (hb hby d3_39) _ ?_
        show Steps p.tables e below (T128.setTop (mkF m 40 #[.val (.ref u0), .val (.int (2 : Int32)), .val (.long c2), .second, .val (.int (1 : Int32))] [(.long c1), (.int (2 : Int32)), (.ref u0)])) _
        refine st136 _ ?_
        show Steps p.tables e below (T136.setTop (mkF m 41 #[.val (.ref u0), .val (.int (2 : Int32)), .val (.long c2), .second, .val (.int (1 : Int32))] [])) _
        refine XS.iinc X136.here hx rfl (hb hby d3_41) rfl (l' := #[.val (.ref u0), .val (.int (2 : Int32)), .val (.long c2), .second, .val (.int ((1 : Int32) + (-1 : Int32)))]) rfl ?_
        rw [show ((1 : Int32) + (-1 : Int32)) = (0 : Int32) from by decide]
        show Steps p.tables e below (T136.setTop (mkF m 44 #[.val (.ref u0), .val (.int (2 : Int32)), .val (.long c2), .second, .val (.int (0 : Int32))] [])) _
        refine XS.goto X136.here hx rfl (pc0 := 44) (pc' := 17) rfl (hb hby d3_44) (by decide) (by decide) ?_
        show Steps p.tables e below (T136.setTop (mkF m 17 #[.val (.ref u0), .val (.int (2 : Int32)), .val (.long c2), .second, .val (.int (0 : Int32))] [])) _
        refine XS.iload X136.here hx rfl (hb hby d3_17) rfl ?_
        show Steps p.tables e below (T136.setTop (mkF m 19 #[.val (.ref u0), .val (.int (2 : Int32)), .val (.long c2), .second, .val (.int (0 : Int32))] [(.int (0 : Int32))])) _
        refine XS.ifNo X136.here hx rfl (hb hby d3_19) rfl ((if0 _ _).trans (flt (by decide : ¬ ((0 : Int32) < (0 : Int32)))).1) ?_
        show Steps p.tables e below (T136.setTop (mkF m 22 #[.val (.ref u0), .val (.int (2 : Int32)), .val (.long c2), .second, .val (.int (0 : Int32))] [])) _
        refine XS.aloadN X136.here hx rfl (hb hby d3_22) rfl rfl ?_
        show Steps p.tables e below (T136.setTop (mkF m 23 #[.val (.ref u0), .val (.int (2 : Int32)), .val (.long c2), .second, .val (.int (0 : Int32))] [(.ref u0)])) _
        refine XS.iload X136.here hx rfl (hb hby d3_23) rfl ?_
        show Steps p.tables e below (T136.setTop (mkF m 25 #[.val (.ref u0), .val (.int (2 : Int32)), .val (.long c2), .second, .val (.int (0 : Int32))] [(.int (0 : Int32)), (.ref u0)])) _
        refine X136.laload hx (j := (0 : Int32)) (v := (.long c0)) (by rw [e136]; exact Ar137.1) (State.isArrayOf_alike hZ.alike Ar137.2.1) Ar137.2.2 hin137 hat137 (g := (mkF m 25 #[.val (.ref u0), .val (.int (2 : Int32)), .val (.long c2), .second, .val (.int (0 : Int32))] [(.int (0 : Int32)), (.ref u0)])) rfl rfl (hb hby d3_25) _ ?_
        show Steps p.tables e below (T136.setTop (mkF m 26 #[.val (.ref u0), .val (.int (2 : Int32)), .val (.long c2), .second, .val (.int (0 : Int32))] [(.long c0)])) _
        refine XS.lloadN X136.here hx rfl (hb hby d3_26) rfl ?_
        show Steps p.tables e below (T136.setTop (mkF m 27 #[.val (.ref u0), .val (.int (2 : Int32)), .val (.long c2), .second, .val (.int (0 : Int32))] [(.long c2), (.long c0)])) _
        refine XS.lcmp X136.here hx rfl (hb hby d3_27) rfl ?_
        exact kt
      refine Done.of ?_ K138
      by_cases hc28_139 : c0 < c2
      · have K : ∀ target, Steps p.tables e below (T136.setTop (mkF m 31 #[.val (.ref u0), .val (.int (2 : Int32)), .val (.long c2), .second, .val (.int (0 : Int32))] [])) target → Steps p.tables e below (T136.setTop (mkF m 28 #[.val (.ref u0), .val (.int (2 : Int32)), .val (.long c2), .second, .val (.int (0 : Int32))] [(.int (lcmpW c0 c2))])) target := by
          intro target kt
          refine XS.ifNo X136.here hx rfl (hb hby d3_28) rfl ((if0 _ _).trans (tlt ((lw_lt c0 c2).mpr hc28_139)).2.1) ?_
          exact kt
        refine Done.of ?_ K
        obtain ⟨cl140, Ar140, qq140, S140, M140, H140, G140⟩ := id V136
        have hin140 : ¬ ((0 : Int32) < 0 ∨ cl140.slots.size ≤ ((0 : Int32)).toNatClampNeg) := inb_of S140 ⟨by decide, by decide⟩
        have hat140 : cl140.slots[((0 : Int32)).toNatClampNeg]? = some (.long c0) := H140 0 (by rw [S140]; decide)
        obtain ⟨cl141, Ar141, qq141, S141, M141, H141, G141⟩ := id V136
        have hin141 : ¬ ((1 : Int32) < 0 ∨ cl141.slots.size ≤ ((1 : Int32)).toNatClampNeg) := inb_of S141 ⟨by decide, by decide⟩
        obtain ⟨T142, h142, X142, e142, W142, st142⟩ := stJ X136 hx hZ e136 Ar141 (j := (1 : Int32)) hin141 (g := (mkF m 40 #[.val (.ref u0), .val (.int (2 : Int32)), .val (.long c2), .second, .val (.int (0 : Int32))] [(.long c0), (.int (1 : Int32)), (.ref u0)])) rfl rfl (hb hby d3_40)
        have V142 : Arv Z h142 u0 kA .long (4 : Int32) [(.long c0), (.long c0), (.long c1), (.long c3)] _ := Arv.set Ar141 qq141 S141 M141 H141 G141 rfl W142 1 rfl (Nat.le_of_ble_eq_true rfl)
        have N142 := Fr.snoc X142 N136 g0
        have Z142 : n0 ≤ h142.size := Nat.le_trans Z136 (Nat.le_of_eq W142.size.symm)
        have Kp142 := Kp136.wr W142 (Or.inl (List.mem_of_getElem? (i := 0) rfl))
        obtain ⟨cl143, Ar143, qq143, S143, M143, H143, G143⟩ := id V142
        have hin143 : ¬ ((0 : Int32) < 0 ∨ cl143.slots.size ≤ ((0 : Int32)).toNatClampNeg) := inb_of S143 ⟨by decide, by decide⟩
        obtain ⟨T144, h144, X144, e144, W144, st144⟩ := stJ X142 hx hZ e142 Ar143 (j := (0 : Int32)) hin143 (g := (mkF m 53 #[.val (.ref u0), .val (.int (2 : Int32)), .val (.long c2), .second, .val (.int (-1 : Int32))] [(.long c2), (.int (0 : Int32)), (.ref u0)])) rfl rfl (hb hby d3_53)
        have V144 : Arv Z h144 u0 kA .long (4 : Int32) [(.long c2), (.long c0), (.long c1), (.long c3)] _ := Arv.set Ar143 qq143 S143 M143 H143 G143 rfl W144 0 rfl (Nat.le_of_ble_eq_true rfl)
        have N144 := Fr.snoc X144 N142 g0
        have Z144 : n0 ≤ h144.size := Nat.le_trans Z142 (Nat.le_of_eq W144.size.symm)
        have Kp144 := Kp142.wr W144 (Or.inl (List.mem_of_getElem? (i := 0) rfl))
        obtain ⟨cl145, Ar145, qq145, S145, M145, H145, G145⟩ := id V144
        obtain ⟨cl146, Ar146, qq146, S146, M146, H146, G146⟩ := id V144
        have hin146 : ¬ ((3 : Int32) < 0 ∨ cl146.slots.size ≤ ((3 : Int32)).toNatClampNeg) := inb_of S146 ⟨by decide, by decide⟩
        have hat146 : cl146.slots[((3 : Int32)).toNatClampNeg]? = some (.long c3) := H146 3 (by rw [S146]; decide)
        obtain ⟨cl147, Ar147, qq147, S147, M147, H147, G147⟩ := id V144
        have hin147 : ¬ ((2 : Int32) < 0 ∨ cl147.slots.size ≤ ((2 : Int32)).toNatClampNeg) := inb_of S147 ⟨by decide, by decide⟩
        have hat147 : cl147.slots[((2 : Int32)).toNatClampNeg]? = some (.long c1) := H147 2 (by rw [S147]; decide)
        have K148 : ∀ target, Steps p.tables e below (T144.setTop (mkF m 28 #[.val (.ref u0), .val (.int (3 : Int32)), .val (.long c3), .second, .val (.int (2 : Int32))] [(.int (lcmpW c1 c3))])) target → Steps p.tables e below (T136.setTop (mkF m 31 #[.val (.ref u0), .val (.int (2 : Int32)), .val (.long c2), .second, .val (.int (0 : Int32))] [])) target := by
          intro target kt
          show Steps p.tables e below (T136.setTop (mkF m 31 #[.val (.ref u0), .val (.int (2 : Int32)), .val (.long c2), .second, .val (.int (0 : Int32))] [])) _
          refine XS.aloadN X136.here hx rfl (hb hby d3_31) rfl rfl ?_
          show Steps p.tables e below (T136.setTop (mkF m 32 #[.val (.ref u0), .val (.int (2 : Int32)), .val (.long c2), .second, .val (.int (0 : Int32))] [(.ref u0)])) _
          refine XS.iload X136.here hx rfl (hb hby d3_32) rfl ?_
          show Steps p.tables e below (T136.setTop (mkF m 34 #[.val (.ref u0), .val (.int (2 : Int32)), .val (.long c2), .second, .val (.int (0 : Int32))] [(.int (0 : Int32)), (.ref u0)])) _
          refine XS.iconst X136.here hx rfl (hb hby d3_34) ?_
          show Steps p.tables e below (T136.setTop (mkF m 35 #[.val (.ref u0), .val (.int (2 : Int32)), .val (.long c2), .second, .val (.int (0 : Int32))] [(.int (1 : Int32)), (.int (0 : Int32)), (.ref u0)])) _
          refine XS.iadd X136.here hx rfl (hb hby d3_35) rfl ?_
          rw [show ((0 : Int32) + (1 : Int32)) = (1 : Int32) from by decide]
          show Steps p.tables e below (T136.setTop (mkF m 36 #[.val (.ref u0), .val (.int (2 : Int32)), .val (.long c2), .second, .val (.int (0 : Int32))] [(.int (1 : Int32)), (.ref u0)])) _
          refine XS.aloadN X136.here hx rfl (hb hby d3_36) rfl rfl ?_
          show Steps p.tables e below (T136.setTop (mkF m 37 #[.val (.ref u0), .val (.int (2 : Int32)), .val (.long c2), .second, .val (.int (0 : Int32))] [(.ref u0), (.int (1 : Int32)), (.ref u0)])) _
          refine XS.iload X136.here hx rfl (hb hby d3_37) rfl ?_
          show Steps p.tables e below (T136.setTop (mkF m 39 #[.val (.ref u0), .val (.int (2 : Int32)), .val (.long c2), .second, .val (.int (0 : Int32))] [(.int (0 : Int32)), (.ref u0), (.int (1 : Int32)), (.ref u0)])) _
          refine X136.laload hx (j := (0 : Int32)) (v := (.long c0)) (by rw [e136]; exact Ar140.1) (State.isArrayOf_alike hZ.alike Ar140.2.1) Ar140.2.2 hin140 hat140 (g := (mkF m 39 #[.val (.ref u0), .val (.int (2 : Int32)), .val (.long c2), .second, .val (.int (0 : Int32))] [(.int (0 : Int32)), (.ref u0), (.int (1 : Int32)), (.ref u0)])) rfl rfl (hb hby d3_39) _ ?_
          show Steps p.tables e below (T136.setTop (mkF m 40 #[.val (.ref u0), .val (.int (2 : Int32)), .val (.long c2), .second, .val (.int (0 : Int32))] [(.long c0), (.int (1 : Int32)), (.ref u0)])) _
          refine st142 _ ?_
          show Steps p.tables e below (T142.setTop (mkF m 41 #[.val (.ref u0), .val (.int (2 : Int32)), .val (.long c2), .second, .val (.int (0 : Int32))] [])) _
          refine XS.iinc X142.here hx rfl (hb hby d3_41) rfl (l' := #[.val (.ref u0), .val (.int (2 : Int32)), .val (.long c2), .second, .val (.int ((0 : Int32) + (-1 : Int32)))]) rfl ?_
          rw [show ((0 : Int32) + (-1 : Int32)) = (-1 : Int32) from by decide]
          show Steps p.tables e below (T142.setTop (mkF m 44 #[.val (.ref u0), .val (.int (2 : Int32)), .val (.long c2), .second, .val (.int (-1 : Int32))] [])) _
          refine XS.goto X142.here hx rfl (pc0 := 44) (pc' := 17) rfl (hb hby d3_44) (by decide) (by decide) ?_
          show Steps p.tables e below (T142.setTop (mkF m 17 #[.val (.ref u0), .val (.int (2 : Int32)), .val (.long c2), .second, .val (.int (-1 : Int32))] [])) _
          refine XS.iload X142.here hx rfl (hb hby d3_17) rfl ?_
          show Steps p.tables e below (T142.setTop (mkF m 19 #[.val (.ref u0), .val (.int (2 : Int32)), .val (.long c2), .second, .val (.int (-1 : Int32))] [(.int (-1 : Int32))])) _
          refine XS.ifYes X142.here hx rfl (pc0 := 19) (pc' := 47) rfl (hb hby d3_19) rfl ((if0 _ _).trans (tlt (by decide : (-1 : Int32) < (0 : Int32))).1) (by decide) (by decide) ?_
          show Steps p.tables e below (T142.setTop (mkF m 47 #[.val (.ref u0), .val (.int (2 : Int32)), .val (.long c2), .second, .val (.int (-1 : Int32))] [])) _
          refine XS.aloadN X142.here hx rfl (hb hby d3_47) rfl rfl ?_
          show Steps p.tables e below (T142.setTop (mkF m 48 #[.val (.ref u0), .val (.int (2 : Int32)), .val (.long c2), .second, .val (.int (-1 : Int32))] [(.ref u0)])) _
          refine XS.iload X142.here hx rfl (hb hby d3_48) rfl ?_
          show Steps p.tables e below (T142.setTop (mkF m 50 #[.val (.ref u0), .val (.int (2 : Int32)), .val (.long c2), .second, .val (.int (-1 : Int32))] [(.int (-1 : Int32)), (.ref u0)])) _
          refine XS.iconst X142.here hx rfl (hb hby d3_50) ?_
          show Steps p.tables e below (T142.setTop (mkF m 51 #[.val (.ref u0), .val (.int (2 : Int32)), .val (.long c2), .second, .val (.int (-1 : Int32))] [(.int (1 : Int32)), (.int (-1 : Int32)), (.ref u0)])) _
          refine XS.iadd X142.here hx rfl (hb hby d3_51) rfl ?_
          rw [show ((-1 : Int32) + (1 : Int32)) = (0 : Int32) from by decide]
          show Steps p.tables e below (T142.setTop (mkF m 52 #[.val (.ref u0), .val (.int (2 : Int32)), .val (.long c2), .second, .val (.int (-1 : Int32))] [(.int (0 : Int32)), (.ref u0)])) _
          refine XS.lloadN X142.here hx rfl (hb hby d3_52) rfl ?_
          show Steps p.tables e below (T142.setTop (mkF m 53 #[.val (.ref u0), .val (.int (2 : Int32)), .val (.long c2), .second, .val (.int (-1 : Int32))] [(.long c2), (.int (0 : Int32)), (.ref u0)])) _
          refine st144 _ ?_
          show Steps p.tables e below (T144.setTop (mkF m 54 #[.val (.ref u0), .val (.int (2 : Int32)), .val (.long c2), .second, .val (.int (-1 : Int32))] [])) _
          refine XS.iinc X144.here hx rfl (hb hby d3_54) rfl (l' := #[.val (.ref u0), .val (.int ((2 : Int32) + (1 : Int32))), .val (.long c2), .second, .val (.int (-1 : Int32))]) rfl ?_
          rw [show ((2 : Int32) + (1 : Int32)) = (3 : Int32) from by decide]
          show Steps p.tables e below (T144.setTop (mkF m 57 #[.val (.ref u0), .val (.int (3 : Int32)), .val (.long c2), .second, .val (.int (-1 : Int32))] [])) _
          refine XS.goto X144.here hx rfl (pc0 := 57) (pc' := 2) rfl (hb hby d3_57) (by decide) (by decide) ?_
          show Steps p.tables e below (T144.setTop (mkF m 2 #[.val (.ref u0), .val (.int (3 : Int32)), .val (.long c2), .second, .val (.int (-1 : Int32))] [])) _
          refine XS.iloadN X144.here hx rfl (hb hby d3_2) rfl ?_
          show Steps p.tables e below (T144.setTop (mkF m 3 #[.val (.ref u0), .val (.int (3 : Int32)), .val (.long c2), .second, .val (.int (-1 : Int32))] [(.int (3 : Int32))])) _
          refine XS.aloadN X144.here hx rfl (hb hby d3_3) rfl rfl ?_
          show Steps p.tables e below (T144.setTop (mkF m 4 #[.val (.ref u0), .val (.int (3 : Int32)), .val (.long c2), .second, .val (.int (-1 : Int32))] [(.ref u0), (.int (3 : Int32))])) _
          refine X144.arraylength hx (by rw [e144]; exact Ar145.1) (State.isArrayOf_alike hZ.alike Ar145.2.1) (g := (mkF m 4 #[.val (.ref u0), .val (.int (3 : Int32)), .val (.long c2), .second, .val (.int (-1 : Int32))] [(.ref u0), (.int (3 : Int32))])) rfl rfl (hb hby d3_4) _ ?_
          rw [len_of S145 M145]
          show Steps p.tables e below (T144.setTop (mkF m 5 #[.val (.ref u0), .val (.int (3 : Int32)), .val (.long c2), .second, .val (.int (-1 : Int32))] [(.int (4 : Int32)), (.int (3 : Int32))])) _
          refine XS.icmpNo X144.here hx rfl (hb hby d3_5) rfl (tlt (by decide : (3 : Int32) < (4 : Int32))).2.1 ?_
          show Steps p.tables e below (T144.setTop (mkF m 8 #[.val (.ref u0), .val (.int (3 : Int32)), .val (.long c2), .second, .val (.int (-1 : Int32))] [])) _
          refine XS.aloadN X144.here hx rfl (hb hby d3_8) rfl rfl ?_
          show Steps p.tables e below (T144.setTop (mkF m 9 #[.val (.ref u0), .val (.int (3 : Int32)), .val (.long c2), .second, .val (.int (-1 : Int32))] [(.ref u0)])) _
          refine XS.iloadN X144.here hx rfl (hb hby d3_9) rfl ?_
          show Steps p.tables e below (T144.setTop (mkF m 10 #[.val (.ref u0), .val (.int (3 : Int32)), .val (.long c2), .second, .val (.int (-1 : Int32))] [(.int (3 : Int32)), (.ref u0)])) _
          refine X144.laload hx (j := (3 : Int32)) (v := (.long c3)) (by rw [e144]; exact Ar146.1) (State.isArrayOf_alike hZ.alike Ar146.2.1) Ar146.2.2 hin146 hat146 (g := (mkF m 10 #[.val (.ref u0), .val (.int (3 : Int32)), .val (.long c2), .second, .val (.int (-1 : Int32))] [(.int (3 : Int32)), (.ref u0)])) rfl rfl (hb hby d3_10) _ ?_
          show Steps p.tables e below (T144.setTop (mkF m 11 #[.val (.ref u0), .val (.int (3 : Int32)), .val (.long c2), .second, .val (.int (-1 : Int32))] [(.long c3)])) _
          refine XS.lstoreN X144.here hx rfl (hb hby d3_11) rfl (l' := #[.val (.ref u0), .val (.int (3 : Int32)), .val (.long c3), .second, .val (.int (-1 : Int32))]) rfl ?_
          show Steps p.tables e below (T144.setTop (mkF m 12 #[.val (.ref u0), .val (.int (3 : Int32)), .val (.long c3), .second, .val (.int (-1 : Int32))] [])) _
          refine XS.iloadN X144.here hx rfl (hb hby d3_12) rfl ?_
          show Steps p.tables e below (T144.setTop (mkF m 13 #[.val (.ref u0), .val (.int (3 : Int32)), .val (.long c3), .second, .val (.int (-1 : Int32))] [(.int (3 : Int32))])) _
          refine XS.iconst X144.here hx rfl (hb hby d3_13) ?_
          show Steps p.tables e below (T144.setTop (mkF m 14 #[.val (.ref u0), .val (.int (3 : Int32)), .val (.long c3), .second, .val (.int (-1 : Int32))] [(.int (1 : Int32)), (.int (3 : Int32))])) _
          refine XS.isub X144.here hx rfl (hb hby d3_14) rfl ?_
          rw [show ((3 : Int32) - (1 : Int32)) = (2 : Int32) from by decide]
          show Steps p.tables e below (T144.setTop (mkF m 15 #[.val (.ref u0), .val (.int (3 : Int32)), .val (.long c3), .second, .val (.int (-1 : Int32))] [(.int (2 : Int32))])) _
          refine XS.istore X144.here hx rfl (hb hby d3_15) rfl (l' := #[.val (.ref u0), .val (.int (3 : Int32)), .val (.long c3), .second, .val (.int (2 : Int32))]) rfl ?_
          show Steps p.tables e below (T144.setTop (mkF m 17 #[.val (.ref u0), .val (.int (3 : Int32)), .val (.long c3), .second, .val (.int (2 : Int32))] [])) _
          refine XS.iload X144.here hx rfl (hb hby d3_17) rfl ?_
          show Steps p.tables e below (T144.setTop (mkF m 19 #[.val (.ref u0), .val (.int (3 : Int32)), .val (.long c3), .second, .val (.int (2 : Int32))] [(.int (2 : Int32))])) _
          refine XS.ifNo X144.here hx rfl (hb hby d3_19) rfl ((if0 _ _).trans (flt (by decide : ¬ ((2 : Int32) < (0 : Int32)))).1) ?_
          show Steps p.tables e below (T144.setTop (mkF m 22 #[.val (.ref u0), .val (.int (3 : Int32)), .val (.long c3), .second, .val (.int (2 : Int32))] [])) _
          refine XS.aloadN X144.here hx rfl (hb hby d3_22) rfl rfl ?_
          show Steps p.tables e below (T144.setTop (mkF m 23 #[.val (.ref u0), .val (.int (3 : Int32)), .val (.long c3), .second, .val (.int (2 : Int32))] [(.ref u0)])) _
          refine XS.iload X144.here hx rfl (hb hby d3_23) rfl ?_
          show Steps p.tables e below (T144.setTop (mkF m 25 #[.val (.ref u0), .val (.int (3 : Int32)), .val (.long c3), .second, .val (.int (2 : Int32))] [(.int (2 : Int32)), (.ref u0)])) _
          refine X144.laload hx (j := (2 : Int32)) (v := (.long c1)) (by rw [e144]; exact Ar147.1) (State.isArrayOf_alike hZ.alike Ar147.2.1) Ar147.2.2 hin147 hat147 (g := (mkF m 25 #[.val (.ref u0), .val (.int (3 : Int32)), .val (.long c3), .second, .val (.int (2 : Int32))] [(.int (2 : Int32)), (.ref u0)])) rfl rfl (hb hby d3_25) _ ?_
          show Steps p.tables e below (T144.setTop (mkF m 26 #[.val (.ref u0), .val (.int (3 : Int32)), .val (.long c3), .second, .val (.int (2 : Int32))] [(.long c1)])) _
          refine XS.lloadN X144.here hx rfl (hb hby d3_26) rfl ?_
          show Steps p.tables e below (T144.setTop (mkF m 27 #[.val (.ref u0), .val (.int (3 : Int32)), .val (.long c3), .second, .val (.int (2 : Int32))] [(.long c3), (.long c1)])) _
          refine XS.lcmp X144.here hx rfl (hb hby d3_27) rfl ?_
          exact kt
        refine Done.of ?_ K148
        by_cases hc28_149 : c1 < c3
        · have K : ∀ target, Steps p.tables e below (T144.setTop (mkF m 31 #[.val (.ref u0), .val (.int (3 : Int32)), .val (.long c3), .second, .val (.int (2 : Int32))] [])) target → Steps p.tables e below (T144.setTop (mkF m 28 #[.val (.ref u0), .val (.int (3 : Int32)), .val (.long c3), .second, .val (.int (2 : Int32))] [(.int (lcmpW c1 c3))])) target := by
            intro target kt
            refine XS.ifNo X144.here hx rfl (hb hby d3_28) rfl ((if0 _ _).trans (tlt ((lw_lt c1 c3).mpr hc28_149)).2.1) ?_
            exact kt
          refine Done.of ?_ K
          obtain ⟨cl150, Ar150, qq150, S150, M150, H150, G150⟩ := id V144
          have hin150 : ¬ ((2 : Int32) < 0 ∨ cl150.slots.size ≤ ((2 : Int32)).toNatClampNeg) := inb_of S150 ⟨by decide, by decide⟩
          have hat150 : cl150.slots[((2 : Int32)).toNatClampNeg]? = some (.long c1) := H150 2 (by rw [S150]; decide)
          obtain ⟨cl151, Ar151, qq151, S151, M151, H151, G151⟩ := id V144
          have hin151 : ¬ ((3 : Int32) < 0 ∨ cl151.slots.size ≤ ((3 : Int32)).toNatClampNeg) := inb_of S151 ⟨by decide, by decide⟩
          obtain ⟨T152, h152, X152, e152, W152, st152⟩ := stJ X144 hx hZ e144 Ar151 (j := (3 : Int32)) hin151 (g := (mkF m 40 #[.val (.ref u0), .val (.int (3 : Int32)), .val (.long c3), .second, .val (.int (2 : Int32))] [(.long c1), (.int (3 : Int32)), (.ref u0)])) rfl rfl (hb hby d3_40)
          have V152 : Arv Z h152 u0 kA .long (4 : Int32) [(.long c2), (.long c0), (.long c1), (.long c1)] _ := Arv.set Ar151 qq151 S151 M151 H151 G151 rfl W152 3 rfl (Nat.le_of_ble_eq_true rfl)
          have N152 := Fr.snoc X152 N144 g0
          have Z152 : n0 ≤ h152.size := Nat.le_trans Z144 (Nat.le_of_eq W152.size.symm)
          have Kp152 := Kp144.wr W152 (Or.inl (List.mem_of_getElem? (i := 0) rfl))
          obtain ⟨cl153, Ar153, qq153, S153, M153, H153, G153⟩ := id V152
          have hin153 : ¬ ((1 : Int32) < 0 ∨ cl153.slots.size ≤ ((1 : Int32)).toNatClampNeg) := inb_of S153 ⟨by decide, by decide⟩
          have hat153 : cl153.slots[((1 : Int32)).toNatClampNeg]? = some (.long c0) := H153 1 (by rw [S153]; decide)
          have K154 : ∀ target, Steps p.tables e below (T152.setTop (mkF m 28 #[.val (.ref u0), .val (.int (3 : Int32)), .val (.long c3), .second, .val (.int (1 : Int32))] [(.int (lcmpW c0 c3))])) target → Steps p.tables e below (T144.setTop (mkF m 31 #[.val (.ref u0), .val (.int (3 : Int32)), .val (.long c3), .second, .val (.int (2 : Int32))] [])) target := by
            intro target kt
            show Steps p.tables e below (T144.setTop (mkF m 31 #[.val (.ref u0), .val (.int (3 : Int32)), .val (.long c3), .second, .val (.int (2 : Int32))] [])) _
            refine XS.aloadN X144.here hx rfl (hb hby d3_31) rfl rfl ?_
            show Steps p.tables e below (T144.setTop (mkF m 32 #[.val (.ref u0), .val (.int (3 : Int32)), .val (.long c3), .second, .val (.int (2 : Int32))] [(.ref u0)])) _
            refine XS.iload X144.here hx rfl (hb hby d3_32) rfl ?_
            show Steps p.tables e below (T144.setTop (mkF m 34 #[.val (.ref u0), .val (.int (3 : Int32)), .val (.long c3), .second, .val (.int (2 : Int32))] [(.int (2 : Int32)), (.ref u0)])) _
            refine XS.iconst X144.here hx rfl (hb hby d3_34) ?_
            show Steps p.tables e below (T144.setTop (mkF m 35 #[.val (.ref u0), .val (.int (3 : Int32)), .val (.long c3), .second, .val (.int (2 : Int32))] [(.int (1 : Int32)), (.int (2 : Int32)), (.ref u0)])) _
            refine XS.iadd X144.here hx rfl (hb hby d3_35) rfl ?_
            rw [show ((2 : Int32) + (1 : Int32)) = (3 : Int32) from by decide]
            show Steps p.tables e below (T144.setTop (mkF m 36 #[.val (.ref u0), .val (.int (3 : Int32)), .val (.long c3), .second, .val (.int (2 : Int32))] [(.int (3 : Int32)), (.ref u0)])) _
            refine XS.aloadN X144.here hx rfl (hb hby d3_36) rfl rfl ?_
            show Steps p.tables e below (T144.setTop (mkF m 37 #[.val (.ref u0), .val (.int (3 : Int32)), .val (.long c3), .second, .val (.int (2 : Int32))] [(.ref u0), (.int (3 : Int32)), (.ref u0)])) _
            refine XS.iload X144.here hx rfl (hb hby d3_37) rfl ?_
            show Steps p.tables e below (T144.setTop (mkF m 39 #[.val (.ref u0), .val (.int (3 : Int32)), .val (.long c3), .second, .val (.int (2 : Int32))] [(.int (2 : Int32)), (.ref u0), (.int (3 : Int32)), (.ref u0)])) _
            refine X144.laload hx (j := (2 : Int32)) (v := (.long c1)) (by rw [e144]; exact Ar150.1) (State.isArrayOf_alike hZ.alike Ar150.2.1) Ar150.2.2 hin150 hat150 (g := (mkF m 39 #[.val (.ref u0), .val (.int (3 : Int32)), .val (.long c3), .second, .val (.int (2 : Int32))] [(.int (2 : Int32)), (.ref u0), (.int (3 : Int32)), (.ref u0)])) rfl rfl (hb hby d3_39) _ ?_
            show Steps p.tables e below (T144.setTop (mkF m 40 #[.val (.ref u0), .val (.int (3 : Int32)), .val (.long c3), .second, .val (.int (2 : Int32))] [(.long c1), (.int (3 : Int32)), (.ref u0)])) _
            refine st152 _ ?_
            show Steps p.tables e below (T152.setTop (mkF m 41 #[.val (.ref u0), .val (.int (3 : Int32)), .val (.long c3), .second, .val (.int (2 : Int32))] [])) _
            refine XS.iinc X152.here hx rfl (hb hby d3_41) rfl (l' := #[.val (.ref u0), .val (.int (3 : Int32)), .val (.long c3), .second, .val (.int ((2 : Int32) + (-1 : Int32)))]) rfl ?_
            rw [show ((2 : Int32) + (-1 : Int32)) = (1 : Int32) from by decide]
            show Steps p.tables e below (T152.setTop (mkF m 44 #[.val (.ref u0), .val (.int (3 : Int32)), .val (.long c3), .second, .val (.int (1 : Int32))] [])) _
            refine XS.goto X152.here hx rfl (pc0 := 44) (pc' := 17) rfl (hb hby d3_44) (by decide) (by decide) ?_
            show Steps p.tables e below (T152.setTop (mkF m 17 #[.val (.ref u0), .val (.int (3 : Int32)), .val (.long c3), .second, .val (.int (1 : Int32))] [])) _
            refine XS.iload X152.here hx rfl (hb hby d3_17) rfl ?_
            show Steps p.tables e below (T152.setTop (mkF m 19 #[.val (.ref u0), .val (.int (3 : Int32)), .val (.long c3), .second, .val (.int (1 : Int32))] [(.int (1 : Int32))])) _
            refine XS.ifNo X152.here hx rfl (hb hby d3_19) rfl ((if0 _ _).trans (flt (by decide : ¬ ((1 : Int32) < (0 : Int32)))).1) ?_
            show Steps p.tables e below (T152.setTop (mkF m 22 #[.val (.ref u0), .val (.int (3 : Int32)), .val (.long c3), .second, .val (.int (1 : Int32))] [])) _
            refine XS.aloadN X152.here hx rfl (hb hby d3_22) rfl rfl ?_
            show Steps p.tables e below (T152.setTop (mkF m 23 #[.val (.ref u0), .val (.int (3 : Int32)), .val (.long c3), .second, .val (.int (1 : Int32))] [(.ref u0)])) _
            refine XS.iload X152.here hx rfl (hb hby d3_23) rfl ?_
            show Steps p.tables e below (T152.setTop (mkF m 25 #[.val (.ref u0), .val (.int (3 : Int32)), .val (.long c3), .second, .val (.int (1 : Int32))] [(.int (1 : Int32)), (.ref u0)])) _
            refine X152.laload hx (j := (1 : Int32)) (v := (.long c0)) (by rw [e152]; exact Ar153.1) (State.isArrayOf_alike hZ.alike Ar153.2.1) Ar153.2.2 hin153 hat153 (g := (mkF m 25 #[.val (.ref u0), .val (.int (3 : Int32)), .val (.long c3), .second, .val (.int (1 : Int32))] [(.int (1 : Int32)), (.ref u0)])) rfl rfl (hb hby d3_25) _ ?_
            show Steps p.tables e below (T152.setTop (mkF m 26 #[.val (.ref u0), .val (.int (3 : Int32)), .val (.long c3), .second, .val (.int (1 : Int32))] [(.long c0)])) _
            refine XS.lloadN X152.here hx rfl (hb hby d3_26) rfl ?_
            show Steps p.tables e below (T152.setTop (mkF m 27 #[.val (.ref u0), .val (.int (3 : Int32)), .val (.long c3), .second, .val (.int (1 : Int32))] [(.long c3), (.long c0)])) _
            refine XS.lcmp X152.here hx rfl (hb hby d3_27) rfl ?_
            exact kt
          refine Done.of ?_ K154
          by_cases hc28_155 : c0 < c3
          · have K : ∀ target, Steps p.tables e below (T152.setTop (mkF m 31 #[.val (.ref u0), .val (.int (3 : Int32)), .val (.long c3), .second, .val (.int (1 : Int32))] [])) target → Steps p.tables e below (T152.setTop (mkF m 28 #[.val (.ref u0), .val (.int (3 : Int32)), .val (.long c3), .second, .val (.int (1 : Int32))] [(.int (lcmpW c0 c3))])) target := by
              intro target kt
              refine XS.ifNo X152.here hx rfl (hb hby d3_28) rfl ((if0 _ _).trans (tlt ((lw_lt c0 c3).mpr hc28_155)).2.1) ?_
              exact kt
            refine Done.of ?_ K
            obtain ⟨cl156, Ar156, qq156, S156, M156, H156, G156⟩ := id V152
            have hin156 : ¬ ((1 : Int32) < 0 ∨ cl156.slots.size ≤ ((1 : Int32)).toNatClampNeg) := inb_of S156 ⟨by decide, by decide⟩
            have hat156 : cl156.slots[((1 : Int32)).toNatClampNeg]? = some (.long c0) := H156 1 (by rw [S156]; decide)
            obtain ⟨cl157, Ar157, qq157, S157, M157, H157, G157⟩ := id V152
            have hin157 : ¬ ((2 : Int32) < 0 ∨ cl157.slots.size ≤ ((2 : Int32)).toNatClampNeg) := inb_of S157 ⟨by decide, by decide⟩
            obtain ⟨T158, h158, X158, e158, W158, st158⟩ := stJ X152 hx hZ e152 Ar157 (j := (2 : Int32)) hin157 (g := (mkF m 40 #[.val (.ref u0), .val (.int (3 : Int32)), .val (.long c3), .second, .val (.int (1 : Int32))] [(.long c0), (.int (2 : Int32)), (.ref u0)])) rfl rfl (hb hby d3_40)
            have V158 : Arv Z h158 u0 kA .long (4 : Int32) [(.long c2), (.long c0), (.long c0), (.long c1)] _ := Arv.set Ar157 qq157 S157 M157 H157 G157 rfl W158 2 rfl (Nat.le_of_ble_eq_true rfl)
            have N158 := Fr.snoc X158 N152 g0
            have Z158 : n0 ≤ h158.size := Nat.le_trans Z152 (Nat.le_of_eq W158.size.symm)
            have Kp158 := Kp152.wr W158 (Or.inl (List.mem_of_getElem? (i := 0) rfl))
            obtain ⟨cl159, Ar159, qq159, S159, M159, H159, G159⟩ := id V158
            have hin159 : ¬ ((0 : Int32) < 0 ∨ cl159.slots.size ≤ ((0 : Int32)).toNatClampNeg) := inb_of S159 ⟨by decide, by decide⟩
            have hat159 : cl159.slots[((0 : Int32)).toNatClampNeg]? = some (.long c2) := H159 0 (by rw [S159]; decide)
            have K160 : ∀ target, Steps p.tables e below (T158.setTop (mkF m 28 #[.val (.ref u0), .val (.int (3 : Int32)), .val (.long c3), .second, .val (.int (0 : Int32))] [(.int (lcmpW c2 c3))])) target → Steps p.tables e below (T152.setTop (mkF m 31 #[.val (.ref u0), .val (.int (3 : Int32)), .val (.long c3), .second, .val (.int (1 : Int32))] [])) target := by
              intro target kt
              show Steps p.tables e below (T152.setTop (mkF m 31 #[.val (.ref u0), .val (.int (3 : Int32)), .val (.long c3), .second, .val (.int (1 : Int32))] [])) _
              refine XS.aloadN X152.here hx rfl (hb hby d3_31) rfl rfl ?_
              show Steps p.tables e below (T152.setTop (mkF m 32 #[.val (.ref u0), .val (.int (3 : Int32)), .val (.long c3), .second, .val (.int (1 : Int32))] [(.ref u0)])) _
              refine XS.iload X152.here hx rfl (hb hby d3_32) rfl ?_
              show Steps p.tables e below (T152.setTop (mkF m 34 #[.val (.ref u0), .val (.int (3 : Int32)), .val (.long c3), .second, .val (.int (1 : Int32))] [(.int (1 : Int32)), (.ref u0)])) _
              refine XS.iconst X152.here hx rfl (hb hby d3_34) ?_
              show Steps p.tables e below (T152.setTop (mkF m 35 #[.val (.ref u0), .val (.int (3 : Int32)), .val (.long c3), .second, .val (.int (1 : Int32))] [(.int (1 : Int32)), (.int (1 : Int32)), (.ref u0)])) _
              refine XS.iadd X152.here hx rfl (hb hby d3_35) rfl ?_
              rw [show ((1 : Int32) + (1 : Int32)) = (2 : Int32) from by decide]
              show Steps p.tables e below (T152.setTop (mkF m 36 #[.val (.ref u0), .val (.int (3 : Int32)), .val (.long c3), .second, .val (.int (1 : Int32))] [(.int (2 : Int32)), (.ref u0)])) _
              refine XS.aloadN X152.here hx rfl (hb hby d3_36) rfl rfl ?_
              show Steps p.tables e below (T152.setTop (mkF m 37 #[.val (.ref u0), .val (.int (3 : Int32)), .val (.long c3), .second, .val (.int (1 : Int32))] [(.ref u0), (.int (2 : Int32)), (.ref u0)])) _
              refine XS.iload X152.here hx rfl (hb hby d3_37) rfl ?_
              show Steps p.tables e below (T152.setTop (mkF m 39 #[.val (.ref u0), .val (.int (3 : Int32)), .val (.long c3), .second, .val (.int (1 : Int32))] [(.int (1 : Int32)), (.ref u0), (.int (2 : Int32)), (.ref u0)])) _
              refine X152.laload hx (j := (1 : Int32)) (v := (.long c0)) (by rw [e152]; exact Ar156.1) (State.isArrayOf_alike hZ.alike Ar156.2.1) Ar156.2.2 hin156 hat156 (g := (mkF m 39 #[.val (.ref u0), .val (.int (3 : Int32)), .val (.long c3), .second, .val (.int (1 : Int32))] [(.int (1 : Int32)), (.ref u0), (.int (2 : Int32)), (.ref u0)])) rfl rfl (hb hby d3_39) _ ?_
              show Steps p.tables e below (T152.setTop (mkF m 40 #[.val (.ref u0), .val (.int (3 : Int32)), .val (.long c3), .second, .val (.int (1 : Int32))] [(.long c0), (.int (2 : Int32)), (.ref u0)])) _
              refine st158 _ ?_
              show Steps p.tables e below (T158.setTop (mkF m 41 #[.val (.ref u0), .val (.int (3 : Int32)), .val (.long c3), .second, .val (.int (1 : Int32))] [])) _
              refine XS.iinc X158.here hx rfl (hb hby d3_41) rfl (l' := #[.val (.ref u0), .val (.int (3 : Int32)), .val (.long c3), .second, .val (.int ((1 : Int32) + (-1 : Int32)))]) rfl ?_
              rw [show ((1 : Int32) + (-1 : Int32)) = (0 : Int32) from by decide]
              show Steps p.tables e below (T158.setTop (mkF m 44 #[.val (.ref u0), .val (.int (3 : Int32)), .val (.long c3), .second, .val (.int (0 : Int32))] [])) _
              refine XS.goto X158.here hx rfl (pc0 := 44) (pc' := 17) rfl (hb hby d3_44) (by decide) (by decide) ?_
              show Steps p.tables e below (T158.setTop (mkF m 17 #[.val (.ref u0), .val (.int (3 : Int32)), .val (.long c3), .second, .val (.int (0 : Int32))] [])) _
              refine XS.iload X158.here hx rfl (hb hby d3_17) rfl ?_
              show Steps p.tables e below (T158.setTop (mkF m 19 #[.val (.ref u0), .val (.int (3 : Int32)), .val (.long c3), .second, .val (.int (0 : Int32))] [(.int (0 : Int32))])) _
              refine XS.ifNo X158.here hx rfl (hb hby d3_19) rfl ((if0 _ _).trans (flt (by decide : ¬ ((0 : Int32) < (0 : Int32)))).1) ?_
              show Steps p.tables e below (T158.setTop (mkF m 22 #[.val (.ref u0), .val (.int (3 : Int32)), .val (.long c3), .second, .val (.int (0 : Int32))] [])) _
              refine XS.aloadN X158.here hx rfl (hb hby d3_22) rfl rfl ?_
              show Steps p.tables e below (T158.setTop (mkF m 23 #[.val (.ref u0), .val (.int (3 : Int32)), .val (.long c3), .second, .val (.int (0 : Int32))] [(.ref u0)])) _
              refine XS.iload X158.here hx rfl (hb hby d3_23) rfl ?_
              show Steps p.tables e below (T158.setTop (mkF m 25 #[.val (.ref u0), .val (.int (3 : Int32)), .val (.long c3), .second, .val (.int (0 : Int32))] [(.int (0 : Int32)), (.ref u0)])) _
              refine X158.laload hx (j := (0 : Int32)) (v := (.long c2)) (by rw [e158]; exact Ar159.1) (State.isArrayOf_alike hZ.alike Ar159.2.1) Ar159.2.2 hin159 hat159 (g := (mkF m 25 #[.val (.ref u0), .val (.int (3 : Int32)), .val (.long c3), .second, .val (.int (0 : Int32))] [(.int (0 : Int32)), (.ref u0)])) rfl rfl (hb hby d3_25) _ ?_
              show Steps p.tables e below (T158.setTop (mkF m 26 #[.val (.ref u0), .val (.int (3 : Int32)), .val (.long c3), .second, .val (.int (0 : Int32))] [(.long c2)])) _
              refine XS.lloadN X158.here hx rfl (hb hby d3_26) rfl ?_
              show Steps p.tables e below (T158.setTop (mkF m 27 #[.val (.ref u0), .val (.int (3 : Int32)), .val (.long c3), .second, .val (.int (0 : Int32))] [(.long c3), (.long c2)])) _
              refine XS.lcmp X158.here hx rfl (hb hby d3_27) rfl ?_
              exact kt
            refine Done.of ?_ K160
            by_cases hc28_161 : c2 < c3
            · have K : ∀ target, Steps p.tables e below (T158.setTop (mkF m 31 #[.val (.ref u0), .val (.int (3 : Int32)), .val (.long c3), .second, .val (.int (0 : Int32))] [])) target → Steps p.tables e below (T158.setTop (mkF m 28 #[.val (.ref u0), .val (.int (3 : Int32)), .val (.long c3), .second, .val (.int (0 : Int32))] [(.int (lcmpW c2 c3))])) target := by
                intro target kt
                refine XS.ifNo X158.here hx rfl (hb hby d3_28) rfl ((if0 _ _).trans (tlt ((lw_lt c2 c3).mpr hc28_161)).2.1) ?_
                exact kt
              refine Done.of ?_ K
              obtain ⟨cl162, Ar162, qq162, S162, M162, H162, G162⟩ := id V158
              have hin162 : ¬ ((0 : Int32) < 0 ∨ cl162.slots.size ≤ ((0 : Int32)).toNatClampNeg) := inb_of S162 ⟨by decide, by decide⟩
              have hat162 : cl162.slots[((0 : Int32)).toNatClampNeg]? = some (.long c2) := H162 0 (by rw [S162]; decide)
              obtain ⟨cl163, Ar163, qq163, S163, M163, H163, G163⟩ := id V158
              have hin163 : ¬ ((1 : Int32) < 0 ∨ cl163.slots.size ≤ ((1 : Int32)).toNatClampNeg) := inb_of S163 ⟨by decide, by decide⟩
              obtain ⟨T164, h164, X164, e164, W164, st164⟩ := stJ X158 hx hZ e158 Ar163 (j := (1 : Int32)) hin163 (g := (mkF m 40 #[.val (.ref u0), .val (.int (3 : Int32)), .val (.long c3), .second, .val (.int (0 : Int32))] [(.long c2), (.int (1 : Int32)), (.ref u0)])) rfl rfl (hb hby d3_40)
              have V164 : Arv Z h164 u0 kA .long (4 : Int32) [(.long c2), (.long c2), (.long c0), (.long c1)] _ := Arv.set Ar163 qq163 S163 M163 H163 G163 rfl W164 1 rfl (Nat.le_of_ble_eq_true rfl)
              have N164 := Fr.snoc X164 N158 g0
              have Z164 : n0 ≤ h164.size := Nat.le_trans Z158 (Nat.le_of_eq W164.size.symm)
              have Kp164 := Kp158.wr W164 (Or.inl (List.mem_of_getElem? (i := 0) rfl))
              obtain ⟨cl165, Ar165, qq165, S165, M165, H165, G165⟩ := id V164
              have hin165 : ¬ ((0 : Int32) < 0 ∨ cl165.slots.size ≤ ((0 : Int32)).toNatClampNeg) := inb_of S165 ⟨by decide, by decide⟩
              obtain ⟨T166, h166, X166, e166, W166, st166⟩ := stJ X164 hx hZ e164 Ar165 (j := (0 : Int32)) hin165 (g := (mkF m 53 #[.val (.ref u0), .val (.int (3 : Int32)), .val (.long c3), .second, .val (.int (-1 : Int32))] [(.long c3), (.int (0 : Int32)), (.ref u0)])) rfl rfl (hb hby d3_53)
              have V166 : Arv Z h166 u0 kA .long (4 : Int32) [(.long c3), (.long c2), (.long c0), (.long c1)] _ := Arv.set Ar165 qq165 S165 M165 H165 G165 rfl W166 0 rfl (Nat.le_of_ble_eq_true rfl)
              have N166 := Fr.snoc X166 N164 g0
              have Z166 : n0 ≤ h166.size := Nat.le_trans Z164 (Nat.le_of_eq W166.size.symm)
              have Kp166 := Kp164.wr W166 (Or.inl (List.mem_of_getElem? (i := 0) rfl))
              obtain ⟨cl167, Ar167, qq167, S167, M167, H167, G167⟩ := id V166
              obtain ⟨fs, hr, hrun, hended, hW, hsame⟩ := X166.leave (v := none) (fun _ => rfl)
              refine ⟨_, _, ?_, hrun, hended, _, _, rfl, ?_, ⟨_, rfl⟩, hW, hsame.mono (by decide) (by decide)⟩
              · show Steps p.tables e below (T158.setTop (mkF m 31 #[.val (.ref u0), .val (.int (3 : Int32)), .val (.long c3), .second, .val (.int (0 : Int32))] [])) _
                refine XS.aloadN X158.here hx rfl (hb hby d3_31) rfl rfl ?_
                show Steps p.tables e below (T158.setTop (mkF m 32 #[.val (.ref u0), .val (.int (3 : Int32)), .val (.long c3), .second, .val (.int (0 : Int32))] [(.ref u0)])) _
                refine XS.iload X158.here hx rfl (hb hby d3_32) rfl ?_
                show Steps p.tables e below (T158.setTop (mkF m 34 #[.val (.ref u0), .val (.int (3 : Int32)), .val (.long c3), .second, .val (.int (0 : Int32))] [(.int (0 : Int32)), (.ref u0)])) _
                refine XS.iconst X158.here hx rfl (hb hby d3_34) ?_
                show Steps p.tables e below (T158.setTop (mkF m 35 #[.val (.ref u0), .val (.int (3 : Int32)), .val (.long c3), .second, .val (.int (0 : Int32))] [(.int (1 : Int32)), (.int (0 : Int32)), (.ref u0)])) _
                refine XS.iadd X158.here hx rfl (hb hby d3_35) rfl ?_
                rw [show ((0 : Int32) + (1 : Int32)) = (1 : Int32) from by decide]
                show Steps p.tables e below (T158.setTop (mkF m 36 #[.val (.ref u0), .val (.int (3 : Int32)), .val (.long c3), .second, .val (.int (0 : Int32))] [(.int (1 : Int32)), (.ref u0)])) _
                refine XS.aloadN X158.here hx rfl (hb hby d3_36) rfl rfl ?_
                show Steps p.tables e below (T158.setTop (mkF m 37 #[.val (.ref u0), .val (.int (3 : Int32)), .val (.long c3), .second, .val (.int (0 : Int32))] [(.ref u0), (.int (1 : Int32)), (.ref u0)])) _
                refine XS.iload X158.here hx rfl (hb hby d3_37) rfl ?_
                show Steps p.tables e below (T158.setTop (mkF m 39 #[.val (.ref u0), .val (.int (3 : Int32)), .val (.long c3), .second, .val (.int (0 : Int32))] [(.int (0 : Int32)), (.ref u0), (.int (1 : Int32)), (.ref u0)])) _
                refine X158.laload hx (j := (0 : Int32)) (v := (.long c2)) (by rw [e158]; exact Ar162.1) (State.isArrayOf_alike hZ.alike Ar162.2.1) Ar162.2.2 hin162 hat162 (g := (mkF m 39 #[.val (.ref u0), .val (.int (3 : Int32)), .val (.long c3), .second, .val (.int (0 : Int32))] [(.int (0 : Int32)), (.ref u0), (.int (1 : Int32)), (.ref u0)])) rfl rfl (hb hby d3_39) _ ?_
                show Steps p.tables e below (T158.setTop (mkF m 40 #[.val (.ref u0), .val (.int (3 : Int32)), .val (.long c3), .second, .val (.int (0 : Int32))] [(.long c2), (.int (1 : Int32)), (.ref u0)])) _
                refine st164 _ ?_
                show Steps p.tables e below (T164.setTop (mkF m 41 #[.val (.ref u0), .val (.int (3 : Int32)), .val (.long c3), .second, .val (.int (0 : Int32))] [])) _
                refine XS.iinc X164.here hx rfl (hb hby d3_41) rfl (l' := #[.val (.ref u0), .val (.int (3 : Int32)), .val (.long c3), .second, .val (.int ((0 : Int32) + (-1 : Int32)))]) rfl ?_
                rw [show ((0 : Int32) + (-1 : Int32)) = (-1 : Int32) from by decide]
                show Steps p.tables e below (T164.setTop (mkF m 44 #[.val (.ref u0), .val (.int (3 : Int32)), .val (.long c3), .second, .val (.int (-1 : Int32))] [])) _
                refine XS.goto X164.here hx rfl (pc0 := 44) (pc' := 17) rfl (hb hby d3_44) (by decide) (by decide) ?_
                show Steps p.tables e below (T164.setTop (mkF m 17 #[.val (.ref u0), .val (.int (3 : Int32)), .val (.long c3), .second, .val (.int (-1 : Int32))] [])) _
                refine XS.iload X164.here hx rfl (hb hby d3_17) rfl ?_
                show Steps p.tables e below (T164.setTop (mkF m 19 #[.val (.ref u0), .val (.int (3 : Int32)), .val (.long c3), .second, .val (.int (-1 : Int32))] [(.int (-1 : Int32))])) _
                refine XS.ifYes X164.here hx rfl (pc0 := 19) (pc' := 47) rfl (hb hby d3_19) rfl ((if0 _ _).trans (tlt (by decide : (-1 : Int32) < (0 : Int32))).1) (by decide) (by decide) ?_
                show Steps p.tables e below (T164.setTop (mkF m 47 #[.val (.ref u0), .val (.int (3 : Int32)), .val (.long c3), .second, .val (.int (-1 : Int32))] [])) _
                refine XS.aloadN X164.here hx rfl (hb hby d3_47) rfl rfl ?_
                show Steps p.tables e below (T164.setTop (mkF m 48 #[.val (.ref u0), .val (.int (3 : Int32)), .val (.long c3), .second, .val (.int (-1 : Int32))] [(.ref u0)])) _
                refine XS.iload X164.here hx rfl (hb hby d3_48) rfl ?_
                show Steps p.tables e below (T164.setTop (mkF m 50 #[.val (.ref u0), .val (.int (3 : Int32)), .val (.long c3), .second, .val (.int (-1 : Int32))] [(.int (-1 : Int32)), (.ref u0)])) _
                refine XS.iconst X164.here hx rfl (hb hby d3_50) ?_
                show Steps p.tables e below (T164.setTop (mkF m 51 #[.val (.ref u0), .val (.int (3 : Int32)), .val (.long c3), .second, .val (.int (-1 : Int32))] [(.int (1 : Int32)), (.int (-1 : Int32)), (.ref u0)])) _
                refine XS.iadd X164.here hx rfl (hb hby d3_51) rfl ?_
                rw [show ((-1 : Int32) + (1 : Int32)) = (0 : Int32) from by decide]
                show Steps p.tables e below (T164.setTop (mkF m 52 #[.val (.ref u0), .val (.int (3 : Int32)), .val (.long c3), .second, .val (.int (-1 : Int32))] [(.int (0 : Int32)), (.ref u0)])) _
                refine XS.lloadN X164.here hx rfl (hb hby d3_52) rfl ?_
                show Steps p.tables e below (T164.setTop (mkF m 53 #[.val (.ref u0), .val (.int (3 : Int32)), .val (.long c3), .second, .val (.int (-1 : Int32))] [(.long c3), (.int (0 : Int32)), (.ref u0)])) _
                refine st166 _ ?_
                show Steps p.tables e below (T166.setTop (mkF m 54 #[.val (.ref u0), .val (.int (3 : Int32)), .val (.long c3), .second, .val (.int (-1 : Int32))] [])) _
                refine XS.iinc X166.here hx rfl (hb hby d3_54) rfl (l' := #[.val (.ref u0), .val (.int ((3 : Int32) + (1 : Int32))), .val (.long c3), .second, .val (.int (-1 : Int32))]) rfl ?_
                rw [show ((3 : Int32) + (1 : Int32)) = (4 : Int32) from by decide]
                show Steps p.tables e below (T166.setTop (mkF m 57 #[.val (.ref u0), .val (.int (4 : Int32)), .val (.long c3), .second, .val (.int (-1 : Int32))] [])) _
                refine XS.goto X166.here hx rfl (pc0 := 57) (pc' := 2) rfl (hb hby d3_57) (by decide) (by decide) ?_
                show Steps p.tables e below (T166.setTop (mkF m 2 #[.val (.ref u0), .val (.int (4 : Int32)), .val (.long c3), .second, .val (.int (-1 : Int32))] [])) _
                refine XS.iloadN X166.here hx rfl (hb hby d3_2) rfl ?_
                show Steps p.tables e below (T166.setTop (mkF m 3 #[.val (.ref u0), .val (.int (4 : Int32)), .val (.long c3), .second, .val (.int (-1 : Int32))] [(.int (4 : Int32))])) _
                refine XS.aloadN X166.here hx rfl (hb hby d3_3) rfl rfl ?_
                show Steps p.tables e below (T166.setTop (mkF m 4 #[.val (.ref u0), .val (.int (4 : Int32)), .val (.long c3), .second, .val (.int (-1 : Int32))] [(.ref u0), (.int (4 : Int32))])) _
                refine X166.arraylength hx (by rw [e166]; exact Ar167.1) (State.isArrayOf_alike hZ.alike Ar167.2.1) (g := (mkF m 4 #[.val (.ref u0), .val (.int (4 : Int32)), .val (.long c3), .second, .val (.int (-1 : Int32))] [(.ref u0), (.int (4 : Int32))])) rfl rfl (hb hby d3_4) _ ?_
                rw [len_of S167 M167]
                show Steps p.tables e below (T166.setTop (mkF m 5 #[.val (.ref u0), .val (.int (4 : Int32)), .val (.long c3), .second, .val (.int (-1 : Int32))] [(.int (4 : Int32)), (.int (4 : Int32))])) _
                refine XS.icmpYes X166.here hx rfl (pc0 := 5) (pc' := 60) rfl (hb hby d3_5) rfl (flt (by decide : ¬ ((4 : Int32) < (4 : Int32)))).2.1 (by decide) (by decide) ?_
                show Steps p.tables e below (T166.setTop (mkF m 60 #[.val (.ref u0), .val (.int (4 : Int32)), .val (.long c3), .second, .val (.int (-1 : Int32))] [])) _
                exact X166.returnOut hx Bd.returns (hb hby d3_60) hr
              · show Q3n4 Z u0 kA dv c0 c1 c2 c3 h0 n0 _ T166.heap _
                rw [e166]
                have k0 := mt Int64.lt_iff_toInt_lt.mpr hc28_5
                have k1 := Int64.lt_iff_toInt_lt.mp hc28_133
                have k2 := Int64.lt_iff_toInt_lt.mp hc28_139
                have k3 := Int64.lt_iff_toInt_lt.mp hc28_149
                have k4 := Int64.lt_iff_toInt_lt.mp hc28_155
                have k5 := Int64.lt_iff_toInt_lt.mp hc28_161
                have r0 : (own_X (own_X c0 c1) (own_X c2 c3)) = c3 := by
                  apply Int64.toInt_inj.mp
                  simp only [own_xi, own_ni]
                  omega
                have r1 : (own_X (own_X (own_N c0 c1) (own_N c2 c3)) (own_N (own_X c0 c1) (own_X c2 c3))) = c2 := by
                  apply Int64.toInt_inj.mp
                  simp only [own_xi, own_ni]
                  omega
                have r2 : (own_N (own_X (own_N c0 c1) (own_N c2 c3)) (own_N (own_X c0 c1) (own_X c2 c3))) = c0 := by
                  apply Int64.toInt_inj.mp
                  simp only [own_xi, own_ni]
                  omega
                have r3 : (own_N (own_N c0 c1) (own_N c2 c3)) = c1 := by
                  apply Int64.toInt_inj.mp
                  simp only [own_xi, own_ni]
                  omega
                refine ⟨rfl, N166, Kp166, ?_⟩
                rw [r0, r1, r2, r3]
                exact V166
            · have K : ∀ target, Steps p.tables e below (T158.setTop (mkF m 47 #[.val (.ref u0), .val (.int (3 : Int32)), .val (.long c3), .second, .val (.int (0 : Int32))] [])) target → Steps p.tables e below (T158.setTop (mkF m 28 #[.val (.ref u0), .val (.int (3 : Int32)), .val (.long c3), .second, .val (.int (0 : Int32))] [(.int (lcmpW c2 c3))])) target := by
                intro target kt
                refine XS.ifYes X158.here hx rfl (pc0 := 28) (pc' := 47) rfl (hb hby d3_28) rfl ((if0 _ _).trans (flt (fun q => hc28_161 ((lw_lt c2 c3).mp q))).2.1) (by decide) (by decide) ?_
                exact kt
              refine Done.of ?_ K
              obtain ⟨cl168, Ar168, qq168, S168, M168, H168, G168⟩ := id V158
              have hin168 : ¬ ((1 : Int32) < 0 ∨ cl168.slots.size ≤ ((1 : Int32)).toNatClampNeg) := inb_of S168 ⟨by decide, by decide⟩
              obtain ⟨T169, h169, X169, e169, W169, st169⟩ := stJ X158 hx hZ e158 Ar168 (j := (1 : Int32)) hin168 (g := (mkF m 53 #[.val (.ref u0), .val (.int (3 : Int32)), .val (.long c3), .second, .val (.int (0 : Int32))] [(.long c3), (.int (1 : Int32)), (.ref u0)])) rfl rfl (hb hby d3_53)
              have V169 : Arv Z h169 u0 kA .long (4 : Int32) [(.long c2), (.long c3), (.long c0), (.long c1)] _ := Arv.set Ar168 qq168 S168 M168 H168 G168 rfl W169 1 rfl (Nat.le_of_ble_eq_true rfl)
              have N169 := Fr.snoc X169 N158 g0
              have Z169 : n0 ≤ h169.size := Nat.le_trans Z158 (Nat.le_of_eq W169.size.symm)
              have Kp169 := Kp158.wr W169 (Or.inl (List.mem_of_getElem? (i := 0) rfl))
              obtain ⟨cl170, Ar170, qq170, S170, M170, H170, G170⟩ := id V169
              obtain ⟨fs, hr, hrun, hended, hW, hsame⟩ := X169.leave (v := none) (fun _ => rfl)
              refine ⟨_, _, ?_, hrun, hended, _, _, rfl, ?_, ⟨_, rfl⟩, hW, hsame.mono (by decide) (by decide)⟩
              · show Steps p.tables e below (T158.setTop (mkF m 47 #[.val (.ref u0), .val (.int (3 : Int32)), .val (.long c3), .second, .val (.int (0 : Int32))] [])) _
                refine XS.aloadN X158.here hx rfl (hb hby d3_47) rfl rfl ?_
                show Steps p.tables e below (T158.setTop (mkF m 48 #[.val (.ref u0), .val (.int (3 : Int32)), .val (.long c3), .second, .val (.int (0 : Int32))] [(.ref u0)])) _
                refine XS.iload X158.here hx rfl (hb hby d3_48) rfl ?_
                show Steps p.tables e below (T158.setTop (mkF m 50 #[.val (.ref u0), .val (.int (3 : Int32)), .val (.long c3), .second, .val (.int (0 : Int32))] [(.int (0 : Int32)), (.ref u0)])) _
                refine XS.iconst X158.here hx rfl (hb hby d3_50) ?_
                show Steps p.tables e below (T158.setTop (mkF m 51 #[.val (.ref u0), .val (.int (3 : Int32)), .val (.long c3), .second, .val (.int (0 : Int32))] [(.int (1 : Int32)), (.int (0 : Int32)), (.ref u0)])) _
                refine XS.iadd X158.here hx rfl (hb hby d3_51) rfl ?_
                rw [show ((0 : Int32) + (1 : Int32)) = (1 : Int32) from by decide]
                show Steps p.tables e below (T158.setTop (mkF m 52 #[.val (.ref u0), .val (.int (3 : Int32)), .val (.long c3), .second, .val (.int (0 : Int32))] [(.int (1 : Int32)), (.ref u0)])) _
                refine XS.lloadN X158.here hx rfl (hb hby d3_52) rfl ?_
                show Steps p.tables e below (T158.setTop (mkF m 53 #[.val (.ref u0), .val (.int (3 : Int32)), .val (.long c3), .second, .val (.int (0 : Int32))] [(.long c3), (.int (1 : Int32)), (.ref u0)])) _
                refine st169 _ ?_
                show Steps p.tables e below (T169.setTop (mkF m 54 #[.val (.ref u0), .val (.int (3 : Int32)), .val (.long c3), .second, .val (.int (0 : Int32))] [])) _
                refine XS.iinc X169.here hx rfl (hb hby d3_54) rfl (l' := #[.val (.ref u0), .val (.int ((3 : Int32) + (1 : Int32))), .val (.long c3), .second, .val (.int (0 : Int32))]) rfl ?_
                rw [show ((3 : Int32) + (1 : Int32)) = (4 : Int32) from by decide]
                show Steps p.tables e below (T169.setTop (mkF m 57 #[.val (.ref u0), .val (.int (4 : Int32)), .val (.long c3), .second, .val (.int (0 : Int32))] [])) _
                refine XS.goto X169.here hx rfl (pc0 := 57) (pc' := 2) rfl (hb hby d3_57) (by decide) (by decide) ?_
                show Steps p.tables e below (T169.setTop (mkF m 2 #[.val (.ref u0), .val (.int (4 : Int32)), .val (.long c3), .second, .val (.int (0 : Int32))] [])) _
                refine XS.iloadN X169.here hx rfl (hb hby d3_2) rfl ?_
                show Steps p.tables e below (T169.setTop (mkF m 3 #[.val (.ref u0), .val (.int (4 : Int32)), .val (.long c3), .second, .val (.int (0 : Int32))] [(.int (4 : Int32))])) _
                refine XS.aloadN X169.here hx rfl (hb hby d3_3) rfl rfl ?_
                show Steps p.tables e below (T169.setTop (mkF m 4 #[.val (.ref u0), .val (.int (4 : Int32)), .val (.long c3), .second, .val (.int (0 : Int32))] [(.ref u0), (.int (4 : Int32))])) _
                refine X169.arraylength hx (by rw [e169]; exact Ar170.1) (State.isArrayOf_alike hZ.alike Ar170.2.1) (g := (mkF m 4 #[.val (.ref u0), .val (.int (4 : Int32)), .val (.long c3), .second, .val (.int (0 : Int32))] [(.ref u0), (.int (4 : Int32))])) rfl rfl (hb hby d3_4) _ ?_
                rw [len_of S170 M170]
                show Steps p.tables e below (T169.setTop (mkF m 5 #[.val (.ref u0), .val (.int (4 : Int32)), .val (.long c3), .second, .val (.int (0 : Int32))] [(.int (4 : Int32)), (.int (4 : Int32))])) _
                refine XS.icmpYes X169.here hx rfl (pc0 := 5) (pc' := 60) rfl (hb hby d3_5) rfl (flt (by decide : ¬ ((4 : Int32) < (4 : Int32)))).2.1 (by decide) (by decide) ?_
                show Steps p.tables e below (T169.setTop (mkF m 60 #[.val (.ref u0), .val (.int (4 : Int32)), .val (.long c3), .second, .val (.int (0 : Int32))] [])) _
                exact X169.returnOut hx Bd.returns (hb hby d3_60) hr
              · show Q3n4 Z u0 kA dv c0 c1 c2 c3 h0 n0 _ T169.heap _
                rw [e169]
                have k0 := mt Int64.lt_iff_toInt_lt.mpr hc28_5
                have k1 := Int64.lt_iff_toInt_lt.mp hc28_133
                have k2 := Int64.lt_iff_toInt_lt.mp hc28_139
                have k3 := Int64.lt_iff_toInt_lt.mp hc28_149
                have k4 := Int64.lt_iff_toInt_lt.mp hc28_155
                have k5 := mt Int64.lt_iff_toInt_lt.mpr hc28_161
                have r0 : (own_X (own_X c0 c1) (own_X c2 c3)) = c2 := by
                  apply Int64.toInt_inj.mp
                  simp only [own_xi, own_ni]
                  omega
                have r1 : (own_X (own_X (own_N c0 c1) (own_N c2 c3)) (own_N (own_X c0 c1) (own_X c2 c3))) = c3 := by
                  apply Int64.toInt_inj.mp
                  simp only [own_xi, own_ni]
                  omega
                have r2 : (own_N (own_X (own_N c0 c1) (own_N c2 c3)) (own_N (own_X c0 c1) (own_X c2 c3))) = c0 := by
                  apply Int64.toInt_inj.mp
                  simp only [own_xi, own_ni]
                  omega
                have r3 : (own_N (own_N c0 c1) (own_N c2 c3)) = c1 := by
                  apply Int64.toInt_inj.mp
                  simp only [own_xi, own_ni]
                  omega
                refine ⟨rfl, N169, Kp169, ?_⟩
                rw [r0, r1, r2, r3]
                exact V169
          · have K : ∀ target, Steps p.tables e below (T152.setTop (mkF m 47 #[.val (.ref u0), .val (.int (3 : Int32)), .val (.long c3), .second, .val (.int (1 : Int32))] [])) target → Steps p.tables e below (T152.setTop (mkF m 28 #[.val (.ref u0), .val (.int (3 : Int32)), .val (.long c3), .second, .val (.int (1 : Int32))] [(.int (lcmpW c0 c3))])) target := by
              intro target kt
              refine XS.ifYes X152.here hx rfl (pc0 := 28) (pc' := 47) rfl (hb hby d3_28) rfl ((if0 _ _).trans (flt (fun q => hc28_155 ((lw_lt c0 c3).mp q))).2.1) (by decide) (by decide) ?_
              exact kt
            refine Done.of ?_ K
            obtain ⟨cl171, Ar171, qq171, S171, M171, H171, G171⟩ := id V152
            have hin171 : ¬ ((2 : Int32) < 0 ∨ cl171.slots.size ≤ ((2 : Int32)).toNatClampNeg) := inb_of S171 ⟨by decide, by decide⟩
            obtain ⟨T172, h172, X172, e172, W172, st172⟩ := stJ X152 hx hZ e152 Ar171 (j := (2 : Int32)) hin171 (g := (mkF m 53 #[.val (.ref u0), .val (.int (3 : Int32)), .val (.long c3), .second, .val (.int (1 : Int32))] [(.long c3), (.int (2 : Int32)), (.ref u0)])) rfl rfl (hb hby d3_53)
            have V172 : Arv Z h172 u0 kA .long (4 : Int32) [(.long c2), (.long c0), (.long c3), (.long c1)] _ := Arv.set Ar171 qq171 S171 M171 H171 G171 rfl W172 2 rfl (Nat.le_of_ble_eq_true rfl)
            have N172 := Fr.snoc X172 N152 g0
            have Z172 : n0 ≤ h172.size := Nat.le_trans Z152 (Nat.le_of_eq W172.size.symm)
            have Kp172 := Kp152.wr W172 (Or.inl (List.mem_of_getElem? (i := 0) rfl))
            obtain ⟨cl173, Ar173, qq173, S173, M173, H173, G173⟩ := id V172
            obtain ⟨fs, hr, hrun, hended, hW, hsame⟩ := X172.leave (v := none) (fun _ => rfl)
            refine ⟨_, _, ?_, hrun, hended, _, _, rfl, ?_, ⟨_, rfl⟩, hW, hsame.mono (by decide) (by decide)⟩
            · show Steps p.tables e below (T152.setTop (mkF m 47 #[.val (.ref u0), .val (.int (3 : Int32)), .val (.long c3), .second, .val (.int (1 : Int32))] [])) _
              refine XS.aloadN X152.here hx rfl (hb hby d3_47) rfl rfl ?_
              show Steps p.tables e below (T152.setTop (mkF m 48 #[.val (.ref u0), .val (.int (3 : Int32)), .val (.long c3), .second, .val (.int (1 : Int32))] [(.ref u0)])) _
              refine XS.iload X152.here hx rfl (hb hby d3_48) rfl ?_
              show Steps p.tables e below (T152.setTop (mkF m 50 #[.val (.ref u0), .val (.int (3 : Int32)), .val (.long c3), .second, .val (.int (1 : Int32))] [(.int (1 : Int32)), (.ref u0)])) _
              refine XS.iconst X152.here hx rfl (hb hby d3_50) ?_
              show Steps p.tables e below (T152.setTop (mkF m 51 #[.val (.ref u0), .val (.int (3 : Int32)), .val (.long c3), .second, .val (.int (1 : Int32))] [(.int (1 : Int32)), (.int (1 : Int32)), (.ref u0)])) _
              refine XS.iadd X152.here hx rfl (hb hby d3_51) rfl ?_
              rw [show ((1 : Int32) + (1 : Int32)) = (2 : Int32) from by decide]
              show Steps p.tables e below (T152.setTop (mkF m 52 #[.val (.ref u0), .val (.int (3 : Int32)), .val (.long c3), .second, .val (.int (1 : Int32))] [(.int (2 : Int32)), (.ref u0)])) _
              refine XS.lloadN X152.here hx rfl (hb hby d3_52) rfl ?_
              show Steps p.tables e below (T152.setTop (mkF m 53 #[.val (.ref u0), .val (.int (3 : Int32)), .val (.long c3), .second, .val (.int (1 : Int32))] [(.long c3), (.int (2 : Int32)), (.ref u0)])) _
              refine st172 _ ?_
              show Steps p.tables e below (T172.setTop (mkF m 54 #[.val (.ref u0), .val (.int (3 : Int32)), .val (.long c3), .second, .val (.int (1 : Int32))] [])) _
              refine XS.iinc X172.here hx rfl (hb hby d3_54) rfl (l' := #[.val (.ref u0), .val (.int ((3 : Int32) + (1 : Int32))), .val (.long c3), .second, .val (.int (1 : Int32))]) rfl ?_
              rw [show ((3 : Int32) + (1 : Int32)) = (4 : Int32) from by decide]
              show Steps p.tables e below (T172.setTop (mkF m 57 #[.val (.ref u0), .val (.int (4 : Int32)), .val (.long c3), .second, .val (.int (1 : Int32))] [])) _
              refine XS.goto X172.here hx rfl (pc0 := 57) (pc' := 2) rfl (hb hby d3_57) (by decide) (by decide) ?_
              show Steps p.tables e below (T172.setTop (mkF m 2 #[.val (.ref u0), .val (.int (4 : Int32)), .val (.long c3), .second, .val (.int (1 : Int32))] [])) _
              refine XS.iloadN X172.here hx rfl (hb hby d3_2) rfl ?_
              show Steps p.tables e below (T172.setTop (mkF m 3 #[.val (.ref u0), .val (.int (4 : Int32)), .val (.long c3), .second, .val (.int (1 : Int32))] [(.int (4 : Int32))])) _
              refine XS.aloadN X172.here hx rfl (hb hby d3_3) rfl rfl ?_
              show Steps p.tables e below (T172.setTop (mkF m 4 #[.val (.ref u0), .val (.int (4 : Int32)), .val (.long c3), .second, .val (.int (1 : Int32))] [(.ref u0), (.int (4 : Int32))])) _
              refine X172.arraylength hx (by rw [e172]; exact Ar173.1) (State.isArrayOf_alike hZ.alike Ar173.2.1) (g := (mkF m 4 #[.val (.ref u0), .val (.int (4 : Int32)), .val (.long c3), .second, .val (.int (1 : Int32))] [(.ref u0), (.int (4 : Int32))])) rfl rfl (hb hby d3_4) _ ?_
              rw [len_of S173 M173]
              show Steps p.tables e below (T172.setTop (mkF m 5 #[.val (.ref u0), .val (.int (4 : Int32)), .val (.long c3), .second, .val (.int (1 : Int32))] [(.int (4 : Int32)), (.int (4 : Int32))])) _
              refine XS.icmpYes X172.here hx rfl (pc0 := 5) (pc' := 60) rfl (hb hby d3_5) rfl (flt (by decide : ¬ ((4 : Int32) < (4 : Int32)))).2.1 (by decide) (by decide) ?_
              show Steps p.tables e below (T172.setTop (mkF m 60 #[.val (.ref u0), .val (.int (4 : Int32)), .val (.long c3), .second, .val (.int (1 : Int32))] [])) _
              exact X172.returnOut hx Bd.returns (hb hby d3_60) hr
            · show Q3n4 Z u0 kA dv c0 c1 c2 c3 h0 n0 _ T172.heap _
              rw [e172]
              have k0 := mt Int64.lt_iff_toInt_lt.mpr hc28_5
              have k1 := Int64.lt_iff_toInt_lt.mp hc28_133
              have k2 := Int64.lt_iff_toInt_lt.mp hc28_139
              have k3 := Int64.lt_iff_toInt_lt.mp hc28_149
              have k4 := mt Int64.lt_iff_toInt_lt.mpr hc28_155
              have r0 : (own_X (own_X c0 c1) (own_X c2 c3)) = c2 := by
                apply Int64.toInt_inj.mp
                simp only [own_xi, own_ni]
                omega
              have r1 : (own_X (own_X (own_N c0 c1) (own_N c2 c3)) (own_N (own_X c0 c1) (own_X c2 c3))) = c0 := by
                apply Int64.toInt_inj.mp
                simp only [own_xi, own_ni]
                omega
              have r2 : (own_N (own_X (own_N c0 c1) (own_N c2 c3)) (own_N (own_X c0 c1) (own_X c2 c3))) = c3 := by
                apply Int64.toInt_inj.mp
                simp only [own_xi, own_ni]
                omega
              have r3 : (own_N (own_N c0 c1) (own_N c2 c3)) = c1 := by
                apply Int64.toInt_inj.mp
                simp only [own_xi, own_ni]
                omega
              refine ⟨rfl, N172, Kp172, ?_⟩
              rw [r0, r1, r2, r3]
              exact V172
        · have K : ∀ target, Steps p.tables e below (T144.setTop (mkF m 47 #[.val (.ref u0), .val (.int (3 : Int32)), .val (.long c3), .second, .val (.int (2 : Int32))] [])) target → Steps p.tables e below (T144.setTop (mkF m 28 #[.val (.ref u0), .val (.int (3 : Int32)), .val (.long c3), .second, .val (.int (2 : Int32))] [(.int (lcmpW c1 c3))])) target := by
            intro target kt
            refine XS.ifYes X144.here hx rfl (pc0 := 28) (pc' := 47) rfl (hb hby d3_28) rfl ((if0 _ _).trans (flt (fun q => hc28_149 ((lw_lt c1 c3).mp q))).2.1) (by decide) (by decide) ?_
            exact kt
          refine Done.of ?_ K
          obtain ⟨cl174, Ar174, qq174, S174, M174, H174, G174⟩ := id V144
          have hin174 : ¬ ((3 : Int32) < 0 ∨ cl174.slots.size ≤ ((3 : Int32)).toNatClampNeg) := inb_of S174 ⟨by decide, by decide⟩
          obtain ⟨T175, h175, X175, e175, W175, st175⟩ := stJ X144 hx hZ e144 Ar174 (j := (3 : Int32)) hin174 (g := (mkF m 53 #[.val (.ref u0), .val (.int (3 : Int32)), .val (.long c3), .second, .val (.int (2 : Int32))] [(.long c3), (.int (3 : Int32)), (.ref u0)])) rfl rfl (hb hby d3_53)
          have V175 : Arv Z h175 u0 kA .long (4 : Int32) [(.long c2), (.long c0), (.long c1), (.long c3)] _ := Arv.set Ar174 qq174 S174 M174 H174 G174 rfl W175 3 rfl (Nat.le_of_ble_eq_true rfl)
          have N175 := Fr.snoc X175 N144 g0
          have Z175 : n0 ≤ h175.size := Nat.le_trans Z144 (Nat.le_of_eq W175.size.symm)
          have Kp175 := Kp144.wr W175 (Or.inl (List.mem_of_getElem? (i := 0) rfl))
          obtain ⟨cl176, Ar176, qq176, S176, M176, H176, G176⟩ := id V175
          obtain ⟨fs, hr, hrun, hended, hW, hsame⟩ := X175.leave (v := none) (fun _ => rfl)
          refine ⟨_, _, ?_, hrun, hended, _, _, rfl, ?_, ⟨_, rfl⟩, hW, hsame.mono (by decide) (by decide)⟩
          · show Steps p.tables e below (T144.setTop (mkF m 47 #[.val (.ref u0), .val (.int (3 : Int32)), .val (.long c3), .second, .val (.int (2 : Int32))] [])) _
            refine XS.aloadN X144.here hx rfl (hb hby d3_47) rfl rfl ?_
            show Steps p.tables e below (T144.setTop (mkF m 48 #[.val (.ref u0), .val (.int (3 : Int32)), .val (.long c3), .second, .val (.int (2 : Int32))] [(.ref u0)])) _
            refine XS.iload X144.here hx rfl (hb hby d3_48) rfl ?_
            show Steps p.tables e below (T144.setTop (mkF m 50 #[.val (.ref u0), .val (.int (3 : Int32)), .val (.long c3), .second, .val (.int (2 : Int32))] [(.int (2 : Int32)), (.ref u0)])) _
            refine XS.iconst X144.here hx rfl (hb hby d3_50) ?_
            show Steps p.tables e below (T144.setTop (mkF m 51 #[.val (.ref u0), .val (.int (3 : Int32)), .val (.long c3), .second, .val (.int (2 : Int32))] [(.int (1 : Int32)), (.int (2 : Int32)), (.ref u0)])) _
            refine XS.iadd X144.here hx rfl (hb hby d3_51) rfl ?_
            rw [show ((2 : Int32) + (1 : Int32)) = (3 : Int32) from by decide]
            show Steps p.tables e below (T144.setTop (mkF m 52 #[.val (.ref u0), .val (.int (3 : Int32)), .val (.long c3), .second, .val (.int (2 : Int32))] [(.int (3 : Int32)), (.ref u0)])) _
            refine XS.lloadN X144.here hx rfl (hb hby d3_52) rfl ?_
            show Steps p.tables e below (T144.setTop (mkF m 53 #[.val (.ref u0), .val (.int (3 : Int32)), .val (.long c3), .second, .val (.int (2 : Int32))] [(.long c3), (.int (3 : Int32)), (.ref u0)])) _
            refine st175 _ ?_
            show Steps p.tables e below (T175.setTop (mkF m 54 #[.val (.ref u0), .val (.int (3 : Int32)), .val (.long c3), .second, .val (.int (2 : Int32))] [])) _
            refine XS.iinc X175.here hx rfl (hb hby d3_54) rfl (l' := #[.val (.ref u0), .val (.int ((3 : Int32) + (1 : Int32))), .val (.long c3), .second, .val (.int (2 : Int32))]) rfl ?_
            rw [show ((3 : Int32) + (1 : Int32)) = (4 : Int32) from by decide]
            show Steps p.tables e below (T175.setTop (mkF m 57 #[.val (.ref u0), .val (.int (4 : Int32)), .val (.long c3), .second, .val (.int (2 : Int32))] [])) _
            refine XS.goto X175.here hx rfl (pc0 := 57) (pc' := 2) rfl (hb hby d3_57) (by decide) (by decide) ?_
            show Steps p.tables e below (T175.setTop (mkF m 2 #[.val (.ref u0), .val (.int (4 : Int32)), .val (.long c3), .second, .val (.int (2 : Int32))] [])) _
            refine XS.iloadN X175.here hx rfl (hb hby d3_2) rfl ?_
            show Steps p.tables e below (T175.setTop (mkF m 3 #[.val (.ref u0), .val (.int (4 : Int32)), .val (.long c3), .second, .val (.int (2 : Int32))] [(.int (4 : Int32))])) _
            refine XS.aloadN X175.here hx rfl (hb hby d3_3) rfl rfl ?_
            show Steps p.tables e below (T175.setTop (mkF m 4 #[.val (.ref u0), .val (.int (4 : Int32)), .val (.long c3), .second, .val (.int (2 : Int32))] [(.ref u0), (.int (4 : Int32))])) _
            refine X175.arraylength hx (by rw [e175]; exact Ar176.1) (State.isArrayOf_alike hZ.alike Ar176.2.1) (g := (mkF m 4 #[.val (.ref u0), .val (.int (4 : Int32)), .val (.long c3), .second, .val (.int (2 : Int32))] [(.ref u0), (.int (4 : Int32))])) rfl rfl (hb hby d3_4) _ ?_
            rw [len_of S176 M176]
            show Steps p.tables e below (T175.setTop (mkF m 5 #[.val (.ref u0), .val (.int (4 : Int32)), .val (.long c3), .second, .val (.int (2 : Int32))] [(.int (4 : Int32)), (.int (4 : Int32))])) _
            refine XS.icmpYes X175.here hx rfl (pc0 := 5) (pc' := 60) rfl (hb hby d3_5) rfl (flt (by decide : ¬ ((4 : Int32) < (4 : Int32)))).2.1 (by decide) (by decide) ?_
            show Steps p.tables e below (T175.setTop (mkF m 60 #[.val (.ref u0), .val (.int (4 : Int32)), .val (.long c3), .second, .val (.int (2 : Int32))] [])) _
            exact X175.returnOut hx Bd.returns (hb hby d3_60) hr
          · show Q3n4 Z u0 kA dv c0 c1 c2 c3 h0 n0 _ T175.heap _
            rw [e175]
            have k0 := mt Int64.lt_iff_toInt_lt.mpr hc28_5
            have k1 := Int64.lt_iff_toInt_lt.mp hc28_133
            have k2 := Int64.lt_iff_toInt_lt.mp hc28_139
            have k3 := mt Int64.lt_iff_toInt_lt.mpr hc28_149
            have r0 : (own_X (own_X c0 c1) (own_X c2 c3)) = c2 := by
              apply Int64.toInt_inj.mp
              simp only [own_xi, own_ni]
              omega
            have r1 : (own_X (own_X (own_N c0 c1) (own_N c2 c3)) (own_N (own_X c0 c1) (own_X c2 c3))) = c0 := by
              apply Int64.toInt_inj.mp
              simp only [own_xi, own_ni]
              omega
            have r2 : (own_N (own_X (own_N c0 c1) (own_N c2 c3)) (own_N (own_X c0 c1) (own_X c2 c3))) = c1 := by
              apply Int64.toInt_inj.mp
              simp only [own_xi, own_ni]
              omega
            have r3 : (own_N (own_N c0 c1) (own_N c2 c3)) = c3 := by
              apply Int64.toInt_inj.mp
              simp only [own_xi, own_ni]
              omega
            refine ⟨rfl, N175, Kp175, ?_⟩
            rw [r0, r1, r2, r3]
            exact V175
      · have K : ∀ target, Steps p.tables e below (T136.setTop (mkF m 47 #[.val (.ref u0), .val (.int (2 : Int32)), .val (.long c2), .second, .val (.int (0 : Int32))] [])) target → Steps p.tables e below (T136.setTop (mkF m 28 #[.val (.ref u0), .val (.int (2 : Int32)), .val (.long c2), .second, .val (.int (0 : Int32))] [(.int (lcmpW c0 c2))])) target := by
          intro target kt
          refine XS.ifYes X136.here hx rfl (pc0 := 28) (pc' := 47) rfl (hb hby d3_28) rfl ((if0 _ _).trans (flt (fun q => hc28_139 ((lw_lt c0 c2).mp q))).2.1) (by decide) (by decide) ?_
          exact kt
        refine Done.of ?_ K
        obtain ⟨cl177, Ar177, qq177, S177, M177, H177, G177⟩ := id V136
        have hin177 : ¬ ((1 : Int32) < 0 ∨ cl177.slots.size ≤ ((1 : Int32)).toNatClampNeg) := inb_of S177 ⟨by decide, by decide⟩
        obtain ⟨T178, h178, X178, e178, W178, st178⟩ := stJ X136 hx hZ e136 Ar177 (j := (1 : Int32)) hin177 (g := (mkF m 53 #[.val (.ref u0), .val (.int (2 : Int32)), .val (.long c2), .second, .val (.int (0 : Int32))] [(.long c2), (.int (1 : Int32)), (.ref u0)])) rfl rfl (hb hby d3_53)
        have V178 : Arv Z h178 u0 kA .long (4 : Int32) [(.long c0), (.long c2), (.long c1), (.long c3)] _ := Arv.set Ar177 qq177 S177 M177 H177 G177 rfl W178 1 rfl (Nat.le_of_ble_eq_true rfl)
        have N178 := Fr.snoc X178 N136 g0
        have Z178 : n0 ≤ h178.size := Nat.le_trans Z136 (Nat.le_of_eq W178.size.symm)
        have Kp178 := Kp136.wr W178 (Or.inl (List.mem_of_getElem? (i := 0) rfl))
        obtain ⟨cl179, Ar179, qq179, S179, M179, H179, G179⟩ := id V178
        obtain ⟨cl180, Ar180, qq180, S180, M180, H180, G180⟩ := id V178
        have hin180 : ¬ ((3 : Int32) < 0 ∨ cl180.slots.size ≤ ((3 : Int32)).toNatClampNeg) := inb_of S180 ⟨by decide, by decide⟩
        have hat180 : cl180.slots[((3 : Int32)).toNatClampNeg]? = some (.long c3) := H180 3 (by rw [S180]; decide)
        obtain ⟨cl181, Ar181, qq181, S181, M181, H181, G181⟩ := id V178
        have hin181 : ¬ ((2 : Int32) < 0 ∨ cl181.slots.size ≤ ((2 : Int32)).toNatClampNeg) := inb_of S181 ⟨by decide, by decide⟩
        have hat181 : cl181.slots[((2 : Int32)).toNatClampNeg]? = some (.long c1) := H181 2 (by rw [S181]; decide)
        have K182 : ∀ target, Steps p.tables e below (T178.setTop (mkF m 28 #[.val (.ref u0), .val (.int (3 : Int32)), .val (.long c3), .second, .val (.int (2 : Int32))] [(.int (lcmpW c1 c3))])) target → Steps p.tables e below (T136.setTop (mkF m 47 #[.val (.ref u0), .val (.int (2 : Int32)), .val (.long c2), .second, .val (.int (0 : Int32))] [])) target := by
          intro target kt
          show Steps p.tables e below (T136.setTop (mkF m 47 #[.val (.ref u0), .val (.int (2 : Int32)), .val (.long c2), .second, .val (.int (0 : Int32))] [])) _
          refine XS.aloadN X136.here hx rfl (hb hby d3_47) rfl rfl ?_
          show Steps p.tables e below (T136.setTop (mkF m 48 #[.val (.ref u0), .val (.int (2 : Int32)), .val (.long c2), .second, .val (.int (0 : Int32))] [(.ref u0)])) _
          refine XS.iload X136.here hx rfl (hb hby d3_48) rfl ?_
          show Steps p.tables e below (T136.setTop (mkF m 50 #[.val (.ref u0), .val (.int (2 : Int32)), .val (.long c2), .second, .val (.int (0 : Int32))] [(.int (0 : Int32)), (.ref u0)])) _
          refine XS.iconst X136.here hx rfl (hb hby d3_50) ?_
          show Steps p.tables e below (T136.setTop (mkF m 51 #[.val (.ref u0), .val (.int (2 : Int32)), .val (.long c2), .second, .val (.int (0 : Int32))] [(.int (1 : Int32)), (.int (0 : Int32)), (.ref u0)])) _
          refine XS.iadd X136.here hx rfl (hb hby d3_51) rfl ?_
          rw [show ((0 : Int32) + (1 : Int32)) = (1 : Int32) from by decide]
          show Steps p.tables e below (T136.setTop (mkF m 52 #[.val (.ref u0), .val (.int (2 : Int32)), .val (.long c2), .second, .val (.int (0 : Int32))] [(.int (1 : Int32)), (.ref u0)])) _
          refine XS.lloadN X136.here hx rfl (hb hby d3_52) rfl ?_
          show Steps p.tables e below (T136.setTop (mkF m 53 #[.val (.ref u0), .val (.int (2 : Int32)), .val (.long c2), .second, .val (.int (0 : Int32))] [(.long c2), (.int (1 : Int32)), (.ref u0)])) _
          refine st178 _ ?_
          show Steps p.tables e below (T178.setTop (mkF m 54 #[.val (.ref u0), .val (.int (2 : Int32)), .val (.long c2), .second, .val (.int (0 : Int32))] [])) _
          refine XS.iinc X178.here hx rfl (hb hby d3_54) rfl (l' := #[.val (.ref u0), .val (.int ((2 : Int32) + (1 : Int32))), .val (.long c2), .second, .val (.int (0 : Int32))]) rfl ?_
          rw [show ((2 : Int32) + (1 : Int32)) = (3 : Int32) from by decide]
          show Steps p.tables e below (T178.setTop (mkF m 57 #[.val (.ref u0), .val (.int (3 : Int32)), .val (.long c2), .second, .val (.int (0 : Int32))] [])) _
          refine XS.goto X178.here hx rfl (pc0 := 57) (pc' := 2) rfl (hb hby d3_57) (by decide) (by decide) ?_
          show Steps p.tables e below (T178.setTop (mkF m 2 #[.val (.ref u0), .val (.int (3 : Int32)), .val (.long c2), .second, .val (.int (0 : Int32))] [])) _
          refine XS.iloadN X178.here hx rfl (hb hby d3_2) rfl ?_
          show Steps p.tables e below (T178.setTop (mkF m 3 #[.val (.ref u0), .val (.int (3 : Int32)), .val (.long c2), .second, .val (.int (0 : Int32))] [(.int (3 : Int32))])) _
          refine XS.aloadN X178.here hx rfl (hb hby d3_3) rfl rfl ?_
          show Steps p.tables e below (T178.setTop (mkF m 4 #[.val (.ref u0), .val (.int (3 : Int32)), .val (.long c2), .second, .val (.int (0 : Int32))] [(.ref u0), (.int (3 : Int32))])) _
          refine X178.arraylength hx (by rw [e178]; exact Ar179.1) (State.isArrayOf_alike hZ.alike Ar179.2.1) (g := (mkF m 4 #[.val (.ref u0), .val (.int (3 : Int32)), .val (.long c2), .second, .val (.int (0 : Int32))] [(.ref u0), (.int (3 : Int32))])) rfl rfl (hb hby d3_4) _ ?_
          rw [len_of S179 M179]
          show Steps p.tables e below (T178.setTop (mkF m 5 #[.val (.ref u0), .val (.int (3 : Int32)), .val (.long c2), .second, .val (.int (0 : Int32))] [(.int (4 : Int32)), (.int (3 : Int32))])) _
          refine XS.icmpNo X178.here hx rfl (hb hby d3_5) rfl (tlt (by decide : (3 : Int32) < (4 : Int32))).2.1 ?_
          show Steps p.tables e below (T178.setTop (mkF m 8 #[.val (.ref u0), .val (.int (3 : Int32)), .val (.long c2), .second, .val (.int (0 : Int32))] [])) _
          refine XS.aloadN X178.here hx rfl (hb hby d3_8) rfl rfl ?_
          show Steps p.tables e below (T178.setTop (mkF m 9 #[.val (.ref u0), .val (.int (3 : Int32)), .val (.long c2), .second, .val (.int (0 : Int32))] [(.ref u0)])) _
          refine XS.iloadN X178.here hx rfl (hb hby d3_9) rfl ?_
          show Steps p.tables e below (T178.setTop (mkF m 10 #[.val (.ref u0), .val (.int (3 : Int32)), .val (.long c2), .second, .val (.int (0 : Int32))] [(.int (3 : Int32)), (.ref u0)])) _
          refine X178.laload hx (j := (3 : Int32)) (v := (.long c3)) (by rw [e178]; exact Ar180.1) (State.isArrayOf_alike hZ.alike Ar180.2.1) Ar180.2.2 hin180 hat180 (g := (mkF m 10 #[.val (.ref u0), .val (.int (3 : Int32)), .val (.long c2), .second, .val (.int (0 : Int32))] [(.int (3 : Int32)), (.ref u0)])) rfl rfl (hb hby d3_10) _ ?_
          show Steps p.tables e below (T178.setTop (mkF m 11 #[.val (.ref u0), .val (.int (3 : Int32)), .val (.long c2), .second, .val (.int (0 : Int32))] [(.long c3)])) _
          refine XS.lstoreN X178.here hx rfl (hb hby d3_11) rfl (l' := #[.val (.ref u0), .val (.int (3 : Int32)), .val (.long c3), .second, .val (.int (0 : Int32))]) rfl ?_
          show Steps p.tables e below (T178.setTop (mkF m 12 #[.val (.ref u0), .val (.int (3 : Int32)), .val (.long c3), .second, .val (.int (0 : Int32))] [])) _
          refine XS.iloadN X178.here hx rfl (hb hby d3_12) rfl ?_
          show Steps p.tables e below (T178.setTop (mkF m 13 #[.val (.ref u0), .val (.int (3 : Int32)), .val (.long c3), .second, .val (.int (0 : Int32))] [(.int (3 : Int32))])) _
          refine XS.iconst X178.here hx rfl (hb hby d3_13) ?_
          show Steps p.tables e below (T178.setTop (mkF m 14 #[.val (.ref u0), .val (.int (3 : Int32)), .val (.long c3), .second, .val (.int (0 : Int32))] [(.int (1 : Int32)), (.int (3 : Int32))])) _
          refine XS.isub X178.here hx rfl (hb hby d3_14) rfl ?_
          rw [show ((3 : Int32) - (1 : Int32)) = (2 : Int32) from by decide]
          show Steps p.tables e below (T178.setTop (mkF m 15 #[.val (.ref u0), .val (.int (3 : Int32)), .val (.long c3), .second, .val (.int (0 : Int32))] [(.int (2 : Int32))])) _
          refine XS.istore X178.here hx rfl (hb hby d3_15) rfl (l' := #[.val (.ref u0), .val (.int (3 : Int32)), .val (.long c3), .second, .val (.int (2 : Int32))]) rfl ?_
          show Steps p.tables e below (T178.setTop (mkF m 17 #[.val (.ref u0), .val (.int (3 : Int32)), .val (.long c3), .second, .val (.int (2 : Int32))] [])) _
          refine XS.iload X178.here hx rfl (hb hby d3_17) rfl ?_
          show Steps p.tables e below (T178.setTop (mkF m 19 #[.val (.ref u0), .val (.int (3 : Int32)), .val (.long c3), .second, .val (.int (2 : Int32))] [(.int (2 : Int32))])) _
          refine XS.ifNo X178.here hx rfl (hb hby d3_19) rfl ((if0 _ _).trans (flt (by decide : ¬ ((2 : Int32) < (0 : Int32)))).1) ?_
          show Steps p.tables e below (T178.setTop (mkF m 22 #[.val (.ref u0), .val (.int (3 : Int32)), .val (.long c3), .second, .val (.int (2 : Int32))] [])) _
          refine XS.aloadN X178.here hx rfl (hb hby d3_22) rfl rfl ?_
          show Steps p.tables e below (T178.setTop (mkF m 23 #[.val (.ref u0), .val (.int (3 : Int32)), .val (.long c3), .second, .val (.int (2 : Int32))] [(.ref u0)])) _
          refine XS.iload X178.here hx rfl (hb hby d3_23) rfl ?_
          show Steps p.tables e below (T178.setTop (mkF m 25 #[.val (.ref u0), .val (.int (3 : Int32)), .val (.long c3), .second, .val (.int (2 : Int32))] [(.int (2 : Int32)), (.ref u0)])) _
          refine X178.laload hx (j := (2 : Int32)) (v := (.long c1)) (by rw [e178]; exact Ar181.1) (State.isArrayOf_alike hZ.alike Ar181.2.1) Ar181.2.2 hin181 hat181 (g := (mkF m 25 #[.val (.ref u0), .val (.int (3 : Int32)), .val (.long c3), .second, .val (.int (2 : Int32))] [(.int (2 : Int32)), (.ref u0)])) rfl rfl (hb hby d3_25) _ ?_
          show Steps p.tables e below (T178.setTop (mkF m 26 #[.val (.ref u0), .val (.int (3 : Int32)), .val (.long c3), .second, .val (.int (2 : Int32))] [(.long c1)])) _
          refine XS.lloadN X178.here hx rfl (hb hby d3_26) rfl ?_
          show Steps p.tables e below (T178.setTop (mkF m 27 #[.val (.ref u0), .val (.int (3 : Int32)), .val (.long c3), .second, .val (.int (2 : Int32))] [(.long c3), (.long c1)])) _
          refine XS.lcmp X178.here hx rfl (hb hby d3_27) rfl ?_
          exact kt
        refine Done.of ?_ K182
        by_cases hc28_183 : c1 < c3
        · have K : ∀ target, Steps p.tables e below (T178.setTop (mkF m 31 #[.val (.ref u0), .val (.int (3 : Int32)), .val (.long c3), .second, .val (.int (2 : Int32))] [])) target → Steps p.tables e below (T178.setTop (mkF m 28 #[.val (.ref u0), .val (.int (3 : Int32)), .val (.long c3), .second, .val (.int (2 : Int32))] [(.int (lcmpW c1 c3))])) target := by
            intro target kt
            refine XS.ifNo X178.here hx rfl (hb hby d3_28) rfl ((if0 _ _).trans (tlt ((lw_lt c1 c3).mpr hc28_183)).2.1) ?_
            exact kt
          refine Done.of ?_ K
          obtain ⟨cl184, Ar184, qq184, S184, M184, H184, G184⟩ := id V178
          have hin184 : ¬ ((2 : Int32) < 0 ∨ cl184.slots.size ≤ ((2 : Int32)).toNatClampNeg) := inb_of S184 ⟨by decide, by decide⟩
          have hat184 : cl184.slots[((2 : Int32)).toNatClampNeg]? = some (.long c1) := H184 2 (by rw [S184]; decide)
          obtain ⟨cl185, Ar185, qq185, S185, M185, H185, G185⟩ := id V178
          have hin185 : ¬ ((3 : Int32) < 0 ∨ cl185.slots.size ≤ ((3 : Int32)).toNatClampNeg) := inb_of S185 ⟨by decide, by decide⟩
          obtain ⟨T186, h186, X186, e186, W186, st186⟩ := stJ X178 hx hZ e178 Ar185 (j := (3 : Int32)) hin185 (g := (mkF m 40 #[.val (.ref u0), .val (.int (3 : Int32)), .val (.long c3), .second, .val (.int (2 : Int32))] [(.long c1), (.int (3 : Int32)), (.ref u0)])) rfl rfl (hb hby d3_40)
          have V186 : Arv Z h186 u0 kA .long (4 : Int32) [(.long c0), (.long c2), (.long c1), (.long c1)] _ := Arv.set Ar185 qq185 S185 M185 H185 G185 rfl W186 3 rfl (Nat.le_of_ble_eq_true rfl)
          have N186 := Fr.snoc X186 N178 g0
          have Z186 : n0 ≤ h186.size := Nat.le_trans Z178 (Nat.le_of_eq W186.size.symm)
          have Kp186 := Kp178.wr W186 (Or.inl (List.mem_of_getElem? (i := 0) rfl))
          obtain ⟨cl187, Ar187, qq187, S187, M187, H187, G187⟩ := id V186
          have hin187 : ¬ ((1 : Int32) < 0 ∨ cl187.slots.size ≤ ((1 : Int32)).toNatClampNeg) := inb_of S187 ⟨by decide, by decide⟩
          have hat187 : cl187.slots[((1 : Int32)).toNatClampNeg]? = some (.long c2) := H187 1 (by rw [S187]; decide)
          have K188 : ∀ target, Steps p.tables e below (T186.setTop (mkF m 28 #[.val (.ref u0), .val (.int (3 : Int32)), .val (.long c3), .second, .val (.int (1 : Int32))] [(.int (lcmpW c2 c3))])) target → Steps p.tables e below (T178.setTop (mkF m 31 #[.val (.ref u0), .val (.int (3 : Int32)), .val (.long c3), .second, .val (.int (2 : Int32))] [])) target := by
            intro target kt
            show Steps p.tables e below (T178.setTop (mkF m 31 #[.val (.ref u0), .val (.int (3 : Int32)), .val (.long c3), .second, .val (.int (2 : Int32))] [])) _
            refine XS.aloadN X178.here hx rfl (hb hby d3_31) rfl rfl ?_
            show Steps p.tables e below (T178.setTop (mkF m 32 #[.val (.ref u0), .val (.int (3 : Int32)), .val (.long c3), .second, .val (.int (2 : Int32))] [(.ref u0)])) _
            refine XS.iload X178.here hx rfl (hb hby d3_32) rfl ?_
            show Steps p.tables e below (T178.setTop (mkF m 34 #[.val (.ref u0), .val (.int (3 : Int32)), .val (.long c3), .second, .val (.int (2 : Int32))] [(.int (2 : Int32)), (.ref u0)])) _
            refine XS.iconst X178.here hx rfl (hb hby d3_34) ?_
            show Steps p.tables e below (T178.setTop (mkF m 35 #[.val (.ref u0), .val (.int (3 : Int32)), .val (.long c3), .second, .val (.int (2 : Int32))] [(.int (1 : Int32)), (.int (2 : Int32)), (.ref u0)])) _
            refine XS.iadd X178.here hx rfl (hb hby d3_35) rfl ?_
            rw [show ((2 : Int32) + (1 : Int32)) = (3 : Int32) from by decide]
            show Steps p.tables e below (T178.setTop (mkF m 36 #[.val (.ref u0), .val (.int (3 : Int32)), .val (.long c3), .second, .val (.int (2 : Int32))] [(.int (3 : Int32)), (.ref u0)])) _
            refine XS.aloadN X178.here hx rfl (hb hby d3_36) rfl rfl ?_
            show Steps p.tables e below (T178.setTop (mkF m 37 #[.val (.ref u0), .val (.int (3 : Int32)), .val (.long c3), .second, .val (.int (2 : Int32))] [(.ref u0), (.int (3 : Int32)), (.ref u0)])) _
            refine XS.iload X178.here hx rfl (hb hby d3_37) rfl ?_
            show Steps p.tables e below (T178.setTop (mkF m 39 #[.val (.ref u0), .val (.int (3 : Int32)), .val (.long c3), .second, .val (.int (2 : Int32))] [(.int (2 : Int32)), (.ref u0), (.int (3 : Int32)), (.ref u0)])) _
            refine X178.laload hx (j := (2 : Int32)) (v := (.long c1)) (by rw [e178]; exact Ar184.1) (State.isArrayOf_alike hZ.alike Ar184.2.1) Ar184.2.2 hin184 hat184 (g := (mkF m 39 #[.val (.ref u0), .val (.int (3 : Int32)), .val (.long c3), .second, .val (.int (2 : Int32))] [(.int (2 : Int32)), (.ref u0), (.int (3 : Int32)), (.ref u0)])) rfl rfl (hb hby d3_39) _ ?_
            show Steps p.tables e below (T178.setTop (mkF m 40 #[.val (.ref u0), .val (.int (3 : Int32)), .val (.long c3), .second, .val (.int (2 : Int32))] [(.long c1), (.int (3 : Int32)), (.ref u0)])) _
            refine st186 _ ?_
            show Steps p.tables e below (T186.setTop (mkF m 41 #[.val (.ref u0), .val (.int (3 : Int32)), .val (.long c3), .second, .val (.int (2 : Int32))] [])) _
            refine XS.iinc X186.here hx rfl (hb hby d3_41) rfl (l' := #[.val (.ref u0), .val (.int (3 : Int32)), .val (.long c3), .second, .val (.int ((2 : Int32) + (-1 : Int32)))]) rfl ?_
            rw [show ((2 : Int32) + (-1 : Int32)) = (1 : Int32) from by decide]
            show Steps p.tables e below (T186.setTop (mkF m 44 #[.val (.ref u0), .val (.int (3 : Int32)), .val (.long c3), .second, .val (.int (1 : Int32))] [])) _
            refine XS.goto X186.here hx rfl (pc0 := 44) (pc' := 17) rfl (hb hby d3_44) (by decide) (by decide) ?_
            show Steps p.tables e below (T186.setTop (mkF m 17 #[.val (.ref u0), .val (.int (3 : Int32)), .val (.long c3), .second, .val (.int (1 : Int32))] [])) _
            refine XS.iload X186.here hx rfl (hb hby d3_17) rfl ?_
            show Steps p.tables e below (T186.setTop (mkF m 19 #[.val (.ref u0), .val (.int (3 : Int32)), .val (.long c3), .second, .val (.int (1 : Int32))] [(.int (1 : Int32))])) _
            refine XS.ifNo X186.here hx rfl (hb hby d3_19) rfl ((if0 _ _).trans (flt (by decide : ¬ ((1 : Int32) < (0 : Int32)))).1) ?_
            show Steps p.tables e below (T186.setTop (mkF m 22 #[.val (.ref u0), .val (.int (3 : Int32)), .val (.long c3), .second, .val (.int (1 : Int32))] [])) _
            refine XS.aloadN X186.here hx rfl (hb hby d3_22) rfl rfl ?_
            show Steps p.tables e below (T186.setTop (mkF m 23 #[.val (.ref u0), .val (.int (3 : Int32)), .val (.long c3), .second, .val (.int (1 : Int32))] [(.ref u0)])) _
            refine XS.iload X186.here hx rfl (hb hby d3_23) rfl ?_
            show Steps p.tables e below (T186.setTop (mkF m 25 #[.val (.ref u0), .val (.int (3 : Int32)), .val (.long c3), .second, .val (.int (1 : Int32))] [(.int (1 : Int32)), (.ref u0)])) _
            refine X186.laload hx (j := (1 : Int32)) (v := (.long c2)) (by rw [e186]; exact Ar187.1) (State.isArrayOf_alike hZ.alike Ar187.2.1) Ar187.2.2 hin187 hat187 (g := (mkF m 25 #[.val (.ref u0), .val (.int (3 : Int32)), .val (.long c3), .second, .val (.int (1 : Int32))] [(.int (1 : Int32)), (.ref u0)])) rfl rfl (hb hby d3_25) _ ?_
            show Steps p.tables e below (T186.setTop (mkF m 26 #[.val (.ref u0), .val (.int (3 : Int32)), .val (.long c3), .second, .val (.int (1 : Int32))] [(.long c2)])) _
            refine XS.lloadN X186.here hx rfl (hb hby d3_26) rfl ?_
            show Steps p.tables e below (T186.setTop (mkF m 27 #[.val (.ref u0), .val (.int (3 : Int32)), .val (.long c3), .second, .val (.int (1 : Int32))] [(.long c3), (.long c2)])) _
            refine XS.lcmp X186.here hx rfl (hb hby d3_27) rfl ?_
            exact kt
          refine Done.of ?_ K188
          by_cases hc28_189 : c2 < c3
          · have K : ∀ target, Steps p.tables e below (T186.setTop (mkF m 31 #[.val (.ref u0), .val (.int (3 : Int32)), .val (.long c3), .second, .val (.int (1 : Int32))] [])) target → Steps p.tables e below (T186.setTop (mkF m 28 #[.val (.ref u0), .val (.int (3 : Int32)), .val (.long c3), .second, .val (.int (1 : Int32))] [(.int (lcmpW c2 c3))])) target := by
              intro target kt
              refine XS.ifNo X186.here hx rfl (hb hby d3_28) rfl ((if0 _ _).trans (tlt ((lw_lt c2 c3).mpr hc28_189)).2.1) ?_
              exact kt
            refine Done.of ?_ K
            obtain ⟨cl190, Ar190, qq190, S190, M190, H190, G190⟩ := id V186
            have hin190 : ¬ ((1 : Int32) < 0 ∨ cl190.slots.size ≤ ((1 : Int32)).toNatClampNeg) := inb_of S190 ⟨by decide, by decide⟩
            have hat190 : cl190.slots[((1 : Int32)).toNatClampNeg]? = some (.long c2) := H190 1 (by rw [S190]; decide)
            obtain ⟨cl191, Ar191, qq191, S191, M191, H191, G191⟩ := id V186
            have hin191 : ¬ ((2 : Int32) < 0 ∨ cl191.slots.size ≤ ((2 : Int32)).toNatClampNeg) := inb_of S191 ⟨by decide, by decide⟩
            obtain ⟨T192, h192, X192, e192, W192, st192⟩ := stJ X186 hx hZ e186 Ar191 (j := (2 : Int32)) hin191 (g := (mkF m 40 #[.val (.ref u0), .val (.int (3 : Int32)), .val (.long c3), .second, .val (.int (1 : Int32))] [(.long c2), (.int (2 : Int32)), (.ref u0)])) rfl rfl (hb hby d3_40)
            have V192 : Arv Z h192 u0 kA .long (4 : Int32) [(.long c0), (.long c2), (.long c2), (.long c1)] _ := Arv.set Ar191 qq191 S191 M191 H191 G191 rfl W192 2 rfl (Nat.le_of_ble_eq_true rfl)
            have N192 := Fr.snoc X192 N186 g0
            have Z192 : n0 ≤ h192.size := Nat.le_trans Z186 (Nat.le_of_eq W192.size.symm)
            have Kp192 := Kp186.wr W192 (Or.inl (List.mem_of_getElem? (i := 0) rfl))
            obtain ⟨cl193, Ar193, qq193, S193, M193, H193, G193⟩ := id V192
            have hin193 : ¬ ((0 : Int32) < 0 ∨ cl193.slots.size ≤ ((0 : Int32)).toNatClampNeg) := inb_of S193 ⟨by decide, by decide⟩
            have hat193 : cl193.slots[((0 : Int32)).toNatClampNeg]? = some (.long c0) := H193 0 (by rw [S193]; decide)
            have K194 : ∀ target, Steps p.tables e below (T192.setTop (mkF m 28 #[.val (.ref u0), .val (.int (3 : Int32)), .val (.long c3), .second, .val (.int (0 : Int32))] [(.int (lcmpW c0 c3))])) target → Steps p.tables e below (T186.setTop (mkF m 31 #[.val (.ref u0), .val (.int (3 : Int32)), .val (.long c3), .second, .val (.int (1 : Int32))] [])) target := by
              intro target kt
              show Steps p.tables e below (T186.setTop (mkF m 31 #[.val (.ref u0), .val (.int (3 : Int32)), .val (.long c3), .second, .val (.int (1 : Int32))] [])) _
              refine XS.aloadN X186.here hx rfl (hb hby d3_31) rfl rfl ?_
              show Steps p.tables e below (T186.setTop (mkF m 32 #[.val (.ref u0), .val (.int (3 : Int32)), .val (.long c3), .second, .val (.int (1 : Int32))] [(.ref u0)])) _
              refine XS.iload X186.here hx rfl (hb hby d3_32) rfl ?_
              show Steps p.tables e below (T186.setTop (mkF m 34 #[.val (.ref u0), .val (.int (3 : Int32)), .val (.long c3), .second, .val (.int (1 : Int32))] [(.int (1 : Int32)), (.ref u0)])) _
              refine XS.iconst X186.here hx rfl (hb hby d3_34) ?_
              show Steps p.tables e below (T186.setTop (mkF m 35 #[.val (.ref u0), .val (.int (3 : Int32)), .val (.long c3), .second, .val (.int (1 : Int32))] [(.int (1 : Int32)), (.int (1 : Int32)), (.ref u0)])) _
              refine XS.iadd X186.here hx rfl (hb hby d3_35) rfl ?_
              rw [show ((1 : Int32) + (1 : Int32)) = (2 : Int32) from by decide]
              show Steps p.tables e below (T186.setTop (mkF m 36 #[.val (.ref u0), .val (.int (3 : Int32)), .val (.long c3), .second, .val (.int (1 : Int32))] [(.int (2 : Int32)), (.ref u0)])) _
              refine XS.aloadN X186.here hx rfl (hb hby d3_36) rfl rfl ?_
              show Steps p.tables e below (T186.setTop (mkF m 37 #[.val (.ref u0), .val (.int (3 : Int32)), .val (.long c3), .second, .val (.int (1 : Int32))] [(.ref u0), (.int (2 : Int32)), (.ref u0)])) _
              refine XS.iload X186.here hx rfl (hb hby d3_37) rfl ?_
              show Steps p.tables e below (T186.setTop (mkF m 39 #[.val (.ref u0), .val (.int (3 : Int32)), .val (.long c3), .second, .val (.int (1 : Int32))] [(.int (1 : Int32)), (.ref u0), (.int (2 : Int32)), (.ref u0)])) _
              refine X186.laload hx (j := (1 : Int32)) (v := (.long c2)) (by rw [e186]; exact Ar190.1) (State.isArrayOf_alike hZ.alike Ar190.2.1) Ar190.2.2 hin190 hat190 (g := (mkF m 39 #[.val (.ref u0), .val (.int (3 : Int32)), .val (.long c3), .second, .val (.int (1 : Int32))] [(.int (1 : Int32)), (.ref u0), (.int (2 : Int32)), (.ref u0)])) rfl rfl (hb hby d3_39) _ ?_
              show Steps p.tables e below (T186.setTop (mkF m 40 #[.val (.ref u0), .val (.int (3 : Int32)), .val (.long c3), .second, .val (.int (1 : Int32))] [(.long c2), (.int (2 : Int32)), (.ref u0)])) _
              refine st192 _ ?_
              show Steps p.tables e below (T192.setTop (mkF m 41 #[.val (.ref u0), .val (.int (3 : Int32)), .val (.long c3), .second, .val (.int (1 : Int32))] [])) _
              refine XS.iinc X192.here hx rfl (hb hby d3_41) rfl (l' := #[.val (.ref u0), .val (.int (3 : Int32)), .val (.long c3), .second, .val (.int ((1 : Int32) + (-1 : Int32)))]) rfl ?_
              rw [show ((1 : Int32) + (-1 : Int32)) = (0 : Int32) from by decide]
              show Steps p.tables e below (T192.setTop (mkF m 44 #[.val (.ref u0), .val (.int (3 : Int32)), .val (.long c3), .second, .val (.int (0 : Int32))] [])) _
              refine XS.goto X192.here hx rfl (pc0 := 44) (pc' := 17) rfl (hb hby d3_44) (by decide) (by decide) ?_
              show Steps p.tables e below (T192.setTop (mkF m 17 #[.val (.ref u0), .val (.int (3 : Int32)), .val (.long c3), .second, .val (.int (0 : Int32))] [])) _
              refine XS.iload X192.here hx rfl (hb hby d3_17) rfl ?_
              show Steps p.tables e below (T192.setTop (mkF m 19 #[.val (.ref u0), .val (.int (3 : Int32)), .val (.long c3), .second, .val (.int (0 : Int32))] [(.int (0 : Int32))])) _
              refine XS.ifNo X192.here hx rfl (hb hby d3_19) rfl ((if0 _ _).trans (flt (by decide : ¬ ((0 : Int32) < (0 : Int32)))).1) ?_
              show Steps p.tables e below (T192.setTop (mkF m 22 #[.val (.ref u0), .val (.int (3 : Int32)), .val (.long c3), .second, .val (.int (0 : Int32))] [])) _
              refine XS.aloadN X192.here hx rfl (hb hby d3_22) rfl rfl ?_
              show Steps p.tables e below (T192.setTop (mkF m 23 #[.val (.ref u0), .val (.int (3 : Int32)), .val (.long c3), .second, .val (.int (0 : Int32))] [(.ref u0)])) _
              refine XS.iload X192.here hx rfl (hb hby d3_23) rfl ?_
              show Steps p.tables e below (T192.setTop (mkF m 25 #[.val (.ref u0), .val (.int (3 : Int32)), .val (.long c3), .second, .val (.int (0 : Int32))] [(.int (0 : Int32)), (.ref u0)])) _
              refine X192.laload hx (j := (0 : Int32)) (v := (.long c0)) (by rw [e192]; exact Ar193.1) (State.isArrayOf_alike hZ.alike Ar193.2.1) Ar193.2.2 hin193 hat193 (g := (mkF m 25 #[.val (.ref u0), .val (.int (3 : Int32)), .val (.long c3), .second, .val (.int (0 : Int32))] [(.int (0 : Int32)), (.ref u0)])) rfl rfl (hb hby d3_25) _ ?_
              show Steps p.tables e below (T192.setTop (mkF m 26 #[.val (.ref u0), .val (.int (3 : Int32)), .val (.long c3), .second, .val (.int (0 : Int32))] [(.long c0)])) _
              refine XS.lloadN X192.here hx rfl (hb hby d3_26) rfl ?_
              show Steps p.tables e below (T192.setTop (mkF m 27 #[.val (.ref u0), .val (.int (3 : Int32)), .val (.long c3), .second, .val (.int (0 : Int32))] [(.long c3), (.long c0)])) _
              refine XS.lcmp X192.here hx rfl (hb hby d3_27) rfl ?_
              exact kt
            refine Done.of ?_ K194
            by_cases hc28_195 : c0 < c3
            · have K : ∀ target, Steps p.tables e below (T192.setTop (mkF m 31 #[.val (.ref u0), .val (.int (3 : Int32)), .val (.long c3), .second, .val (.int (0 : Int32))] [])) target → Steps p.tables e below (T192.setTop (mkF m 28 #[.val (.ref u0), .val (.int (3 : Int32)), .val (.long c3), .second, .val (.int (0 : Int32))] [(.int (lcmpW c0 c3))])) target := by
                intro target kt
                refine XS.ifNo X192.here hx rfl (hb hby d3_28) rfl ((if0 _ _).trans (tlt ((lw_lt c0 c3).mpr hc28_195)).2.1) ?_
                exact kt
              refine Done.of ?_ K
              obtain ⟨cl196, Ar196, qq196, S196, M196, H196, G196⟩ := id V192
              have hin196 : ¬ ((0 : Int32) < 0 ∨ cl196.slots.size ≤ ((0 : Int32)).toNatClampNeg) := inb_of S196 ⟨by decide, by decide⟩
              have hat196 : cl196.slots[((0 : Int32)).toNatClampNeg]? = some (.long c0) := H196 0 (by rw [S196]; decide)
              obtain ⟨cl197, Ar197, qq197, S197, M197, H197, G197⟩ := id V192
              have hin197 : ¬ ((1 : Int32) < 0 ∨ cl197.slots.size ≤ ((1 : Int32)).toNatClampNeg) := inb_of S197 ⟨by decide, by decide⟩
              obtain ⟨T198, h198, X198, e198, W198, st198⟩ := stJ X192 hx hZ e192 Ar197 (j := (1 : Int32)) hin197 (g := (mkF m 40 #[.val (.ref u0), .val (.int (3 : Int32)), .val (.long c3), .second, .val (.int (0 : Int32))] [(.long c0), (.int (1 : Int32)), (.ref u0)])) rfl rfl (hb hby d3_40)
              have V198 : Arv Z h198 u0 kA .long (4 : Int32) [(.long c0), (.long c0), (.long c2), (.long c1)] _ := Arv.set Ar197 qq197 S197 M197 H197 G197 rfl W198 1 rfl (Nat.le_of_ble_eq_true rfl)
              have N198 := Fr.snoc X198 N192 g0
              have Z198 : n0 ≤ h198.size := Nat.le_trans Z192 (Nat.le_of_eq W198.size.symm)
              have Kp198 := Kp192.wr W198 (Or.inl (List.mem_of_getElem? (i := 0) rfl))
              obtain ⟨cl199, Ar199, qq199, S199, M199, H199, G199⟩ := id V198
              have hin199 : ¬ ((0 : Int32) < 0 ∨ cl199.slots.size ≤ ((0 : Int32)).toNatClampNeg) := inb_of S199 ⟨by decide, by decide⟩
              obtain ⟨T200, h200, X200, e200, W200, st200⟩ := stJ X198 hx hZ e198 Ar199 (j := (0 : Int32)) hin199 (g := (mkF m 53 #[.val (.ref u0), .val (.int (3 : Int32)), .val (.long c3), .second, .val (.int (-1 : Int32))] [(.long c3), (.int (0 : Int32)), (.ref u0)])) rfl rfl (hb hby d3_53)
              have V200 : Arv Z h200 u0 kA .long (4 : Int32) [(.long c3), (.long c0), (.long c2), (.long c1)] _ := Arv.set Ar199 qq199 S199 M199 H199 G199 rfl W200 0 rfl (Nat.le_of_ble_eq_true rfl)
              have N200 := Fr.snoc X200 N198 g0
              have Z200 : n0 ≤ h200.size := Nat.le_trans Z198 (Nat.le_of_eq W200.size.symm)
              have Kp200 := Kp198.wr W200 (Or.inl (List.mem_of_getElem? (i := 0) rfl))
              obtain ⟨cl201, Ar201, qq201, S201, M201, H201, G201⟩ := id V200
              obtain ⟨fs, hr, hrun, hended, hW, hsame⟩ := X200.leave (v := none) (fun _ => rfl)
              refine ⟨_, _, ?_, hrun, hended, _, _, rfl, ?_, ⟨_, rfl⟩, hW, hsame.mono (by decide) (by decide)⟩
              · show Steps p.tables e below (T192.setTop (mkF m 31 #[.val (.ref u0), .val (.int (3 : Int32)), .val (.long c3), .second, .val (.int (0 : Int32))] [])) _
                refine XS.aloadN X192.here hx rfl (hb hby d3_31) rfl rfl ?_
                show Steps p.tables e below (T192.setTop (mkF m 32 #[.val (.ref u0), .val (.int (3 : Int32)), .val (.long c3), .second, .val (.int (0 : Int32))] [(.ref u0)])) _
                refine XS.iload X192.here hx rfl (hb hby d3_32) rfl ?_
                show Steps p.tables e below (T192.setTop (mkF m 34 #[.val (.ref u0), .val (.int (3 : Int32)), .val (.long c3), .second, .val (.int (0 : Int32))] [(.int (0 : Int32)), (.ref u0)])) _
                refine XS.iconst X192.here hx rfl (hb hby d3_34) ?_
                show Steps p.tables e below (T192.setTop (mkF m 35 #[.val (.ref u0), .val (.int (3 : Int32)), .val (.long c3), .second, .val (.int (0 : Int32))] [(.int (1 : Int32)), (.int (0 : Int32)), (.ref u0)])) _
                refine XS.iadd X192.here hx rfl (hb hby d3_35) rfl ?_
                rw [show ((0 : Int32) + (1 : Int32)) = (1 : Int32) from by decide]
                show Steps p.tables e below (T192.setTop (mkF m 36 #[.val (.ref u0), .val (.int (3 : Int32)), .val (.long c3), .second, .val (.int (0 : Int32))] [(.int (1 : Int32)), (.ref u0)])) _
                refine XS.aloadN X192.here hx rfl (hb hby d3_36) rfl rfl ?_
                show Steps p.tables e below (T192.setTop (mkF m 37 #[.val (.ref u0), .val (.int (3 : Int32)), .val (.long c3), .second, .val (.int (0 : Int32))] [(.ref u0), (.int (1 : Int32)), (.ref u0)])) _
                refine XS.iload X192.here hx rfl (hb hby d3_37) rfl ?_
                show Steps p.tables e below (T192.setTop (mkF m 39 #[.val (.ref u0), .val (.int (3 : Int32)), .val (.long c3), .second, .val (.int (0 : Int32))] [(.int (0 : Int32)), (.ref u0), (.int (1 : Int32)), (.ref u0)])) _
                refine X192.laload hx (j := (0 : Int32)) (v := (.long c0)) (by rw [e192]; exact Ar196.1) (State.isArrayOf_alike hZ.alike Ar196.2.1) Ar196.2.2 hin196 hat196 (g := (mkF m 39 #[.val (.ref u0), .val (.int (3 : Int32)), .val (.long c3), .second, .val (.int (0 : Int32))] [(.int (0 : Int32)), (.ref u0), (.int (1 : Int32)), (.ref u0)])) rfl rfl (hb hby d3_39) _ ?_
                show Steps p.tables e below (T192.setTop (mkF m 40 #[.val (.ref u0), .val (.int (3 : Int32)), .val (.long c3), .second, .val (.int (0 : Int32))] [(.long c0), (.int (1 : Int32)), (.ref u0)])) _
                refine st198 _ ?_
                show Steps p.tables e below (T198.setTop (mkF m 41 #[.val (.ref u0), .val (.int (3 : Int32)), .val (.long c3), .second, .val (.int (0 : Int32))] [])) _
                refine XS.iinc X198.here hx rfl (hb hby d3_41) rfl (l' := #[.val (.ref u0), .val (.int (3 : Int32)), .val (.long c3), .second, .val (.int ((0 : Int32) + (-1 : Int32)))]) rfl ?_
                rw [show ((0 : Int32) + (-1 : Int32)) = (-1 : Int32) from by decide]
                show Steps p.tables e below (T198.setTop (mkF m 44 #[.val (.ref u0), .val (.int (3 : Int32)), .val (.long c3), .second, .val (.int (-1 : Int32))] [])) _
                refine XS.goto X198.here hx rfl (pc0 := 44) (pc' := 17) rfl (hb hby d3_44) (by decide) (by decide) ?_
                show Steps p.tables e below (T198.setTop (mkF m 17 #[.val (.ref u0), .val (.int (3 : Int32)), .val (.long c3), .second, .val (.int (-1 : Int32))] [])) _
                refine XS.iload X198.here hx rfl (hb hby d3_17) rfl ?_
                show Steps p.tables e below (T198.setTop (mkF m 19 #[.val (.ref u0), .val (.int (3 : Int32)), .val (.long c3), .second, .val (.int (-1 : Int32))] [(.int (-1 : Int32))])) _
                refine XS.ifYes X198.here hx rfl (pc0 := 19) (pc' := 47) rfl (hb hby d3_19) rfl ((if0 _ _).trans (tlt (by decide : (-1 : Int32) < (0 : Int32))).1) (by decide) (by decide) ?_
                show Steps p.tables e below (T198.setTop (mkF m 47 #[.val (.ref u0), .val (.int (3 : Int32)), .val (.long c3), .second, .val (.int (-1 : Int32))] [])) _
                refine XS.aloadN X198.here hx rfl (hb hby d3_47) rfl rfl ?_
                show Steps p.tables e below (T198.setTop (mkF m 48 #[.val (.ref u0), .val (.int (3 : Int32)), .val (.long c3), .second, .val (.int (-1 : Int32))] [(.ref u0)])) _
                refine XS.iload X198.here hx rfl (hb hby d3_48) rfl ?_
                show Steps p.tables e below (T198.setTop (mkF m 50 #[.val (.ref u0), .val (.int (3 : Int32)), .val (.long c3), .second, .val (.int (-1 : Int32))] [(.int (-1 : Int32)), (.ref u0)])) _
                refine XS.iconst X198.here hx rfl (hb hby d3_50) ?_
                show Steps p.tables e below (T198.setTop (mkF m 51 #[.val (.ref u0), .val (.int (3 : Int32)), .val (.long c3), .second, .val (.int (-1 : Int32))] [(.int (1 : Int32)), (.int (-1 : Int32)), (.ref u0)])) _
                refine XS.iadd X198.here hx rfl (hb hby d3_51) rfl ?_
                rw [show ((-1 : Int32) + (1 : Int32)) = (0 : Int32) from by decide]
                show Steps p.tables e below (T198.setTop (mkF m 52 #[.val (.ref u0), .val (.int (3 : Int32)), .val (.long c3), .second, .val (.int (-1 : Int32))] [(.int (0 : Int32)), (.ref u0)])) _
                refine XS.lloadN X198.here hx rfl (hb hby d3_52) rfl ?_
                show Steps p.tables e below (T198.setTop (mkF m 53 #[.val (.ref u0), .val (.int (3 : Int32)), .val (.long c3), .second, .val (.int (-1 : Int32))] [(.long c3), (.int (0 : Int32)), (.ref u0)])) _
                refine st200 _ ?_
                show Steps p.tables e below (T200.setTop (mkF m 54 #[.val (.ref u0), .val (.int (3 : Int32)), .val (.long c3), .second, .val (.int (-1 : Int32))] [])) _
                refine XS.iinc X200.here hx rfl (hb hby d3_54) rfl (l' := #[.val (.ref u0), .val (.int ((3 : Int32) + (1 : Int32))), .val (.long c3), .second, .val (.int (-1 : Int32))]) rfl ?_
                rw [show ((3 : Int32) + (1 : Int32)) = (4 : Int32) from by decide]
                show Steps p.tables e below (T200.setTop (mkF m 57 #[.val (.ref u0), .val (.int (4 : Int32)), .val (.long c3), .second, .val (.int (-1 : Int32))] [])) _
                refine XS.goto X200.here hx rfl (pc0 := 57) (pc' := 2) rfl (hb hby d3_57) (by decide) (by decide) ?_
                show Steps p.tables e below (T200.setTop (mkF m 2 #[.val (.ref u0), .val (.int (4 : Int32)), .val (.long c3), .second, .val (.int (-1 : Int32))] [])) _
                refine XS.iloadN X200.here hx rfl (hb hby d3_2) rfl ?_
                show Steps p.tables e below (T200.setTop (mkF m 3 #[.val (.ref u0), .val (.int (4 : Int32)), .val (.long c3), .second, .val (.int (-1 : Int32))] [(.int (4 : Int32))])) _
                refine XS.aloadN X200.here hx rfl (hb hby d3_3) rfl rfl ?_
                show Steps p.tables e below (T200.setTop (mkF m 4 #[.val (.ref u0), .val (.int (4 : Int32)), .val (.long c3), .second, .val (.int (-1 : Int32))] [(.ref u0), (.int (4 : Int32))])) _
                refine X200.arraylength hx (by rw [e200]; exact Ar201.1) (State.isArrayOf_alike hZ.alike Ar201.2.1) (g := (mkF m 4 #[.val (.ref u0), .val (.int (4 : Int32)), .val (.long c3), .second, .val (.int (-1 : Int32))] [(.ref u0), (.int (4 : Int32))])) rfl rfl (hb hby d3_4) _ ?_
                rw [len_of S201 M201]
                show Steps p.tables e below (T200.setTop (mkF m 5 #[.val (.ref u0), .val (.int (4 : Int32)), .val (.long c3), .second, .val (.int (-1 : Int32))] [(.int (4 : Int32)), (.int (4 : Int32))])) _
                refine XS.icmpYes X200.here hx rfl (pc0 := 5) (pc' := 60) rfl (hb hby d3_5) rfl (flt (by decide : ¬ ((4 : Int32) < (4 : Int32)))).2.1 (by decide) (by decide) ?_
                show Steps p.tables e below (T200.setTop (mkF m 60 #[.val (.ref u0), .val (.int (4 : Int32)), .val (.long c3), .second, .val (.int (-1 : Int32))] [])) _
                exact X200.returnOut hx Bd.returns (hb hby d3_60) hr
              · show Q3n4 Z u0 kA dv c0 c1 c2 c3 h0 n0 _ T200.heap _
                rw [e200]
                have k0 := mt Int64.lt_iff_toInt_lt.mpr hc28_5
                have k1 := Int64.lt_iff_toInt_lt.mp hc28_133
                have k2 := mt Int64.lt_iff_toInt_lt.mpr hc28_139
                have k3 := Int64.lt_iff_toInt_lt.mp hc28_183
                have k4 := Int64.lt_iff_toInt_lt.mp hc28_189
                have k5 := Int64.lt_iff_toInt_lt.mp hc28_195
                have r0 : (own_X (own_X c0 c1) (own_X c2 c3)) = c3 := by
                  apply Int64.toInt_inj.mp
                  simp only [own_xi, own_ni]
                  omega
                have r1 : (own_X (own_X (own_N c0 c1) (own_N c2 c3)) (own_N (own_X c0 c1) (own_X c2 c3))) = c0 := by
                  apply Int64.toInt_inj.mp
                  simp only [own_xi, own_ni]
                  omega
                have r2 : (own_N (own_X (own_N c0 c1) (own_N c2 c3)) (own_N (own_X c0 c1) (own_X c2 c3))) = c2 := by
                  apply Int64.toInt_inj.mp
                  simp only [own_xi, own_ni]
                  omega
                have r3 : (own_N (own_N c0 c1) (own_N c2 c3)) = c1 := by
                  apply Int64.toInt_inj.mp
                  simp only [own_xi, own_ni]
                  omega
                refine ⟨rfl, N200, Kp200, ?_⟩
                rw [r0, r1, r2, r3]
                exact V200
            · have K : ∀ target, Steps p.tables e below (T192.setTop (mkF m 47 #[.val (.ref u0), .val (.int (3 : Int32)), .val (.long c3), .second, .val (.int (0 : Int32))] [])) target → Steps p.tables e below (T192.setTop (mkF m 28 #[.val (.ref u0), .val (.int (3 : Int32)), .val (.long c3), .second, .val (.int (0 : Int32))] [(.int (lcmpW c0 c3))])) target := by
                intro target kt
                refine XS.ifYes X192.here hx rfl (pc0 := 28) (pc' := 47) rfl (hb hby d3_28) rfl ((if0 _ _).trans (flt (fun q => hc28_195 ((lw_lt c0 c3).mp q))).2.1) (by decide) (by decide) ?_
                exact kt
              refine Done.of ?_ K
              obtain ⟨cl202, Ar202, qq202, S202, M202, H202, G202⟩ := id V192
              have hin202 : ¬ ((1 : Int32) < 0 ∨ cl202.slots.size ≤ ((1 : Int32)).toNatClampNeg) := inb_of S202 ⟨by decide, by decide⟩
              obtain ⟨T203, h203, X203, e203, W203, st203⟩ := stJ X192 hx hZ e192 Ar202 (j := (1 : Int32)) hin202 (g := (mkF m 53 #[.val (.ref u0), .val (.int (3 : Int32)), .val (.long c3), .second, .val (.int (0 : Int32))] [(.long c3), (.int (1 : Int32)), (.ref u0)])) rfl rfl (hb hby d3_53)
              have V203 : Arv Z h203 u0 kA .long (4 : Int32) [(.long c0), (.long c3), (.long c2), (.long c1)] _ := Arv.set Ar202 qq202 S202 M202 H202 G202 rfl W203 1 rfl (Nat.le_of_ble_eq_true rfl)
              have N203 := Fr.snoc X203 N192 g0
              have Z203 : n0 ≤ h203.size := Nat.le_trans Z192 (Nat.le_of_eq W203.size.symm)
              have Kp203 := Kp192.wr W203 (Or.inl (List.mem_of_getElem? (i := 0) rfl))
              obtain ⟨cl204, Ar204, qq204, S204, M204, H204, G204⟩ := id V203
              obtain ⟨fs, hr, hrun, hended, hW, hsame⟩ := X203.leave (v := none) (fun _ => rfl)
              refine ⟨_, _, ?_, hrun, hended, _, _, rfl, ?_, ⟨_, rfl⟩, hW, hsame.mono (by decide) (by decide)⟩
              · show Steps p.tables e below (T192.setTop (mkF m 47 #[.val (.ref u0), .val (.int (3 : Int32)), .val (.long c3), .second, .val (.int (0 : Int32))] [])) _
                refine XS.aloadN X192.here hx rfl (hb hby d3_47) rfl rfl ?_
                show Steps p.tables e below (T192.setTop (mkF m 48 #[.val (.ref u0), .val (.int (3 : Int32)), .val (.long c3), .second, .val (.int (0 : Int32))] [(.ref u0)])) _
                refine XS.iload X192.here hx rfl (hb hby d3_48) rfl ?_
                show Steps p.tables e below (T192.setTop (mkF m 50 #[.val (.ref u0), .val (.int (3 : Int32)), .val (.long c3), .second, .val (.int (0 : Int32))] [(.int (0 : Int32)), (.ref u0)])) _
                refine XS.iconst X192.here hx rfl (hb hby d3_50) ?_
                show Steps p.tables e below (T192.setTop (mkF m 51 #[.val (.ref u0), .val (.int (3 : Int32)), .val (.long c3), .second, .val (.int (0 : Int32))] [(.int (1 : Int32)), (.int (0 : Int32)), (.ref u0)])) _
                refine XS.iadd X192.here hx rfl (hb hby d3_51) rfl ?_
                rw [show ((0 : Int32) + (1 : Int32)) = (1 : Int32) from by decide]
                show Steps p.tables e below (T192.setTop (mkF m 52 #[.val (.ref u0), .val (.int (3 : Int32)), .val (.long c3), .second, .val (.int (0 : Int32))] [(.int (1 : Int32)), (.ref u0)])) _
                refine XS.lloadN X192.here hx rfl (hb hby d3_52) rfl ?_
                show Steps p.tables e below (T192.setTop (mkF m 53 #[.val (.ref u0), .val (.int (3 : Int32)), .val (.long c3), .second, .val (.int (0 : Int32))] [(.long c3), (.int (1 : Int32)), (.ref u0)])) _
                refine st203 _ ?_
                show Steps p.tables e below (T203.setTop (mkF m 54 #[.val (.ref u0), .val (.int (3 : Int32)), .val (.long c3), .second, .val (.int (0 : Int32))] [])) _
                refine XS.iinc X203.here hx rfl (hb hby d3_54) rfl (l' := #[.val (.ref u0), .val (.int ((3 : Int32) + (1 : Int32))), .val (.long c3), .second, .val (.int (0 : Int32))]) rfl ?_
                rw [show ((3 : Int32) + (1 : Int32)) = (4 : Int32) from by decide]
                show Steps p.tables e below (T203.setTop (mkF m 57 #[.val (.ref u0), .val (.int (4 : Int32)), .val (.long c3), .second, .val (.int (0 : Int32))] [])) _
                refine XS.goto X203.here hx rfl (pc0 := 57) (pc' := 2) rfl (hb hby d3_57) (by decide) (by decide) ?_
                show Steps p.tables e below (T203.setTop (mkF m 2 #[.val (.ref u0), .val (.int (4 : Int32)), .val (.long c3), .second, .val (.int (0 : Int32))] [])) _
                refine XS.iloadN X203.here hx rfl (hb hby d3_2) rfl ?_
                show Steps p.tables e below (T203.setTop (mkF m 3 #[.val (.ref u0), .val (.int (4 : Int32)), .val (.long c3), .second, .val (.int (0 : Int32))] [(.int (4 : Int32))])) _
                refine XS.aloadN X203.here hx rfl (hb hby d3_3) rfl rfl ?_
                show Steps p.tables e below (T203.setTop (mkF m 4 #[.val (.ref u0), .val (.int (4 : Int32)), .val (.long c3), .second, .val (.int (0 : Int32))] [(.ref u0), (.int (4 : Int32))])) _
                refine X203.arraylength hx (by rw [e203]; exact Ar204.1) (State.isArrayOf_alike hZ.alike Ar204.2.1) (g := (mkF m 4 #[.val (.ref u0), .val (.int (4 : Int32)), .val (.long c3), .second, .val (.int (0 : Int32))] [(.ref u0), (.int (4 : Int32))])) rfl rfl (hb hby d3_4) _ ?_
                rw [len_of S204 M204]
                show Steps p.tables e below (T203.setTop (mkF m 5 #[.val (.ref u0), .val (.int (4 : Int32)), .val (.long c3), .second, .val (.int (0 : Int32))] [(.int (4 : Int32)), (.int (4 : Int32))])) _
                refine XS.icmpYes X203.here hx rfl (pc0 := 5) (pc' := 60) rfl (hb hby d3_5) rfl (flt (by decide : ¬ ((4 : Int32) < (4 : Int32)))).2.1 (by decide) (by decide) ?_
                show Steps p.tables e below (T203.setTop (mkF m 60 #[.val (.ref u0), .val (.int (4 : Int32)), .val (.long c3), .second, .val (.int (0 : Int32))] [])) _
                exact X203.returnOut hx Bd.returns (hb hby d3_60) hr
              · show Q3n4 Z u0 kA dv c0 c1 c2 c3 h0 n0 _ T203.heap _
                rw [e203]
                have k0 := mt Int64.lt_iff_toInt_lt.mpr hc28_5
                have k1 := Int64.lt_iff_toInt_lt.mp hc28_133
                have k2 := mt Int64.lt_iff_toInt_lt.mpr hc28_139
                have k3 := Int64.lt_iff_toInt_lt.mp hc28_183
                have k4 := Int64.lt_iff_toInt_lt.mp hc28_189
                have k5 := mt Int64.lt_iff_toInt_lt.mpr hc28_195
                have r0 : (own_X (own_X c0 c1) (own_X c2 c3)) = c0 := by
                  apply Int64.toInt_inj.mp
                  simp only [own_xi, own_ni]
                  omega
                have r1 : (own_X (own_X (own_N c0 c1) (own_N c2 c3)) (own_N (own_X c0 c1) (own_X c2 c3))) = c3 := by
                  apply Int64.toInt_inj.mp
                  simp only [own_xi, own_ni]
                  omega
                have r2 : (own_N (own_X (own_N c0 c1) (own_N c2 c3)) (own_N (own_X c0 c1) (own_X c2 c3))) = c2 := by
                  apply Int64.toInt_inj.mp
                  simp only [own_xi, own_ni]
                  omega
                have r3 : (own_N (own_N c0 c1) (own_N c2 c3)) = c1 := by
                  apply Int64.toInt_inj.mp
                  simp only [own_xi, own_ni]
                  omega
                refine ⟨rfl, N203, Kp203, ?_⟩
                rw [r0, r1, r2, r3]
                exact V203
          · have K : ∀ target, Steps p.tables e below (T186.setTop (mkF m 47 #[.val (.ref u0), .val (.int (3 : Int32)), .val (.long c3), .second, .val (.int (1 : Int32))] [])) target → Steps p.tables e below (T186.setTop (mkF m 28 #[.val (.ref u0), .val (.int (3 : Int32)), .val (.long c3), .second, .val (.int (1 : Int32))] [(.int (lcmpW c2 c3))])) target := by
              intro target kt
              refine XS.ifYes X186.here hx rfl (pc0 := 28) (pc' := 47) rfl (hb hby d3_28) rfl ((if0 _ _).trans (flt (fun q => hc28_189 ((lw_lt c2 c3).mp q))).2.1) (by decide) (by decide) ?_
              exact kt
            refine Done.of ?_ K
            obtain ⟨cl205, Ar205, qq205, S205, M205, H205, G205⟩ := id V186
            have hin205 : ¬ ((2 : Int32) < 0 ∨ cl205.slots.size ≤ ((2 : Int32)).toNatClampNeg) := inb_of S205 ⟨by decide, by decide⟩
            obtain ⟨T206, h206, X206, e206, W206, st206⟩ := stJ X186 hx hZ e186 Ar205 (j := (2 : Int32)) hin205 (g := (mkF m 53 #[.val (.ref u0), .val (.int (3 : Int32)), .val (.long c3), .second, .val (.int (1 : Int32))] [(.long c3), (.int (2 : Int32)), (.ref u0)])) rfl rfl (hb hby d3_53)
            have V206 : Arv Z h206 u0 kA .long (4 : Int32) [(.long c0), (.long c2), (.long c3), (.long c1)] _ := Arv.set Ar205 qq205 S205 M205 H205 G205 rfl W206 2 rfl (Nat.le_of_ble_eq_true rfl)
            have N206 := Fr.snoc X206 N186 g0
            have Z206 : n0 ≤ h206.size := Nat.le_trans Z186 (Nat.le_of_eq W206.size.symm)
            have Kp206 := Kp186.wr W206 (Or.inl (List.mem_of_getElem? (i := 0) rfl))
            obtain ⟨cl207, Ar207, qq207, S207, M207, H207, G207⟩ := id V206
            obtain ⟨fs, hr, hrun, hended, hW, hsame⟩ := X206.leave (v := none) (fun _ => rfl)
            refine ⟨_, _, ?_, hrun, hended, _, _, rfl, ?_, ⟨_, rfl⟩, hW, hsame.mono (by decide) (by decide)⟩
            · show Steps p.tables e below (T186.setTop (mkF m 47 #[.val (.ref u0), .val (.int (3 : Int32)), .val (.long c3), .second, .val (.int (1 : Int32))] [])) _
              refine XS.aloadN X186.here hx rfl (hb hby d3_47) rfl rfl ?_
              show Steps p.tables e below (T186.setTop (mkF m 48 #[.val (.ref u0), .val (.int (3 : Int32)), .val (.long c3), .second, .val (.int (1 : Int32))] [(.ref u0)])) _
              refine XS.iload X186.here hx rfl (hb hby d3_48) rfl ?_
              show Steps p.tables e below (T186.setTop (mkF m 50 #[.val (.ref u0), .val (.int (3 : Int32)), .val (.long c3), .second, .val (.int (1 : Int32))] [(.int (1 : Int32)), (.ref u0)])) _
              refine XS.iconst X186.here hx rfl (hb hby d3_50) ?_
              show Steps p.tables e below (T186.setTop (mkF m 51 #[.val (.ref u0), .val (.int (3 : Int32)), .val (.long c3), .second, .val (.int (1 : Int32))] [(.int (1 : Int32)), (.int (1 : Int32)), (.ref u0)])) _
              refine XS.iadd X186.here hx rfl (hb hby d3_51) rfl ?_
              rw [show ((1 : Int32) + (1 : Int32)) = (2 : Int32) from by decide]
              show Steps p.tables e below (T186.setTop (mkF m 52 #[.val (.ref u0), .val (.int (3 : Int32)), .val (.long c3), .second, .val (.int (1 : Int32))] [(.int (2 : Int32)), (.ref u0)])) _
              refine XS.lloadN X186.here hx rfl (hb hby d3_52) rfl ?_
              show Steps p.tables e below (T186.setTop (mkF m 53 #[.val (.ref u0), .val (.int (3 : Int32)), .val (.long c3), .second, .val (.int (1 : Int32))] [(.long c3), (.int (2 : Int32)), (.ref u0)])) _
              refine st206 _ ?_
              show Steps p.tables e below (T206.setTop (mkF m 54 #[.val (.ref u0), .val (.int (3 : Int32)), .val (.long c3), .second, .val (.int (1 : Int32))] [])) _
              refine XS.iinc X206.here hx rfl (hb hby d3_54) rfl (l' := #[.val (.ref u0), .val (.int ((3 : Int32) + (1 : Int32))), .val (.long c3), .second, .val (.int (1 : Int32))]) rfl ?_
              rw [show ((3 : Int32) + (1 : Int32)) = (4 : Int32) from by decide]
              show Steps p.tables e below (T206.setTop (mkF m 57 #[.val (.ref u0), .val (.int (4 : Int32)), .val (.long c3), .second, .val (.int (1 : Int32))] [])) _
              refine XS.goto X206.here hx rfl (pc0 := 57) (pc' := 2) rfl (hb hby d3_57) (by decide) (by decide) ?_
              show Steps p.tables e below (T206.setTop (mkF m 2 #[.val (.ref u0), .val (.int (4 : Int32)), .val (.long c3), .second, .val (.int (1 : Int32))] [])) _
              refine XS.iloadN X206.here hx rfl (hb hby d3_2) rfl ?_
              show Steps p.tables e below (T206.setTop (mkF m 3 #[.val (.ref u0), .val (.int (4 : Int32)), .val (.long c3), .second, .val (.int (1 : Int32))] [(.int (4 : Int32))])) _
              refine XS.aloadN X206.here hx rfl (hb hby d3_3) rfl rfl ?_
              show Steps p.tables e below (T206.setTop (mkF m 4 #[.val (.ref u0), .val (.int (4 : Int32)), .val (.long c3), .second, .val (.int (1 : Int32))] [(.ref u0), (.int (4 : Int32))])) _
              refine X206.arraylength hx (by rw [e206]; exact Ar207.1) (State.isArrayOf_alike hZ.alike Ar207.2.1) (g := (mkF m 4 #[.val (.ref u0), .val (.int (4 : Int32)), .val (.long c3), .second, .val (.int (1 : Int32))] [(.ref u0), (.int (4 : Int32))])) rfl rfl (hb hby d3_4) _ ?_
              rw [len_of S207 M207]
              show Steps p.tables e below (T206.setTop (mkF m 5 #[.val (.ref u0), .val (.int (4 : Int32)), .val (.long c3), .second, .val (.int (1 : Int32))] [(.int (4 : Int32)), (.int (4 : Int32))])) _
              refine XS.icmpYes X206.here hx rfl (pc0 := 5) (pc' := 60) rfl (hb hby d3_5) rfl (flt (by decide : ¬ ((4 : Int32) < (4 : Int32)))).2.1 (by decide) (by decide) ?_
              show Steps p.tables e below (T206.setTop (mkF m 60 #[.val (.ref u0), .val (.int (4 : Int32)), .val (.long c3), .second, .val (.int (1 : Int32))] [])) _
              exact X206.returnOut hx Bd.returns (hb hby d3_60) hr
            · show Q3n4 Z u0 kA dv c0 c1 c2 c3 h0 n0 _ T206.heap _
              rw [e206]
              have k0 := mt Int64.lt_iff_toInt_lt.mpr hc28_5
              have k1 := Int64.lt_iff_toInt_lt.mp hc28_133
              have k2 := mt Int64.lt_iff_toInt_lt.mpr hc28_139
              have k3 := Int64.lt_iff_toInt_lt.mp hc28_183
              have k4 := mt Int64.lt_iff_toInt_lt.mpr hc28_189
              have r0 : (own_X (own_X c0 c1) (own_X c2 c3)) = c0 := by
                apply Int64.toInt_inj.mp
                simp only [own_xi, own_ni]
                omega
              have r1 : (own_X (own_X (own_N c0 c1) (own_N c2 c3)) (own_N (own_X c0 c1) (own_X c2 c3))) = c2 := by
                apply Int64.toInt_inj.mp
                simp only [own_xi, own_ni]
                omega
              have r2 : (own_N (own_X (own_N c0 c1) (own_N c2 c3)) (own_N (own_X c0 c1) (own_X c2 c3))) = c3 := by
                apply Int64.toInt_inj.mp
                simp only [own_xi, own_ni]
                omega
              have r3 : (own_N (own_N c0 c1) (own_N c2 c3)) = c1 := by
                apply Int64.toInt_inj.mp
                simp only [own_xi, own_ni]
                omega
              refine ⟨rfl, N206, Kp206, ?_⟩
              rw [r0, r1, r2, r3]
              exact V206
        · have K : ∀ target, Steps p.tables e below (T178.setTop (mkF m 47 #[.val (.ref u0), .val (.int (3 : Int32)), .val (.long c3), .second, .val (.int (2 : Int32))] [])) target → Steps p.tables e below (T178.setTop (mkF m 28 #[.val (.ref u0), .val (.int (3 : Int32)), .val (.long c3), .second, .val (.int (2 : Int32))] [(.int (lcmpW c1 c3))])) target := by
            intro target kt
            refine XS.ifYes X178.here hx rfl (pc0 := 28) (pc' := 47) rfl (hb hby d3_28) rfl ((if0 _ _).trans (flt (fun q => hc28_183 ((lw_lt c1 c3).mp q))).2.1) (by decide) (by decide) ?_
            exact kt
          refine Done.of ?_ K
          obtain ⟨cl208, Ar208, qq208, S208, M208, H208, G208⟩ := id V178
          have hin208 : ¬ ((3 : Int32) < 0 ∨ cl208.slots.size ≤ ((3 : Int32)).toNatClampNeg) := inb_of S208 ⟨by decide, by decide⟩
          obtain ⟨T209, h209, X209, e209, W209, st209⟩ := stJ X178 hx hZ e178 Ar208 (j := (3 : Int32)) hin208 (g := (mkF m 53 #[.val (.ref u0), .val (.int (3 : Int32)), .val (.long c3), .second, .val (.int (2 : Int32))] [(.long c3), (.int (3 : Int32)), (.ref u0)])) rfl rfl (hb hby d3_53)
          have V209 : Arv Z h209 u0 kA .long (4 : Int32) [(.long c0), (.long c2), (.long c1), (.long c3)] _ := Arv.set Ar208 qq208 S208 M208 H208 G208 rfl W209 3 rfl (Nat.le_of_ble_eq_true rfl)
          have N209 := Fr.snoc X209 N178 g0
          have Z209 : n0 ≤ h209.size := Nat.le_trans Z178 (Nat.le_of_eq W209.size.symm)
          have Kp209 := Kp178.wr W209 (Or.inl (List.mem_of_getElem? (i := 0) rfl))
          obtain ⟨cl210, Ar210, qq210, S210, M210, H210, G210⟩ := id V209
          obtain ⟨fs, hr, hrun, hended, hW, hsame⟩ := X209.leave (v := none) (fun _ => rfl)
          refine ⟨_, _, ?_, hrun, hended, _, _, rfl, ?_, ⟨_, rfl⟩, hW, hsame.mono (by decide) (by decide)⟩
          · show Steps p.tables e below (T178.setTop (mkF m 47 #[.val (.ref u0), .val (.int (3 : Int32)), .val (.long c3), .second, .val (.int (2 : Int32))] [])) _
            refine XS.aloadN X178.here hx rfl (hb hby d3_47) rfl rfl ?_
            show Steps p.tables e below (T178.setTop (mkF m 48 #[.val (.ref u0), .val (.int (3 : Int32)), .val (.long c3), .second, .val (.int (2 : Int32))] [(.ref u0)])) _
            refine XS.iload X178.here hx rfl (hb hby d3_48) rfl ?_
            show Steps p.tables e below (T178.setTop (mkF m 50 #[.val (.ref u0), .val (.int (3 : Int32)), .val (.long c3), .second, .val (.int (2 : Int32))] [(.int (2 : Int32)), (.ref u0)])) _
            refine XS.iconst X178.here hx rfl (hb hby d3_50) ?_
            show Steps p.tables e below (T178.setTop (mkF m 51 #[.val (.ref u0), .val (.int (3 : Int32)), .val (.long c3), .second, .val (.int (2 : Int32))] [(.int (1 : Int32)), (.int (2 : Int32)), (.ref u0)])) _
            refine XS.iadd X178.here hx rfl (hb hby d3_51) rfl ?_
            rw [show ((2 : Int32) + (1 : Int32)) = (3 : Int32) from by decide]
            show Steps p.tables e below (T178.setTop (mkF m 52 #[.val (.ref u0), .val (.int (3 : Int32)), .val (.long c3), .second, .val (.int (2 : Int32))] [(.int (3 : Int32)), (.ref u0)])) _
            refine XS.lloadN X178.here hx rfl (hb hby d3_52) rfl ?_
            show Steps p.tables e below (T178.setTop (mkF m 53 #[.val (.ref u0), .val (.int (3 : Int32)), .val (.long c3), .second, .val (.int (2 : Int32))] [(.long c3), (.int (3 : Int32)), (.ref u0)])) _
            refine st209 _ ?_
            show Steps p.tables e below (T209.setTop (mkF m 54 #[.val (.ref u0), .val (.int (3 : Int32)), .val (.long c3), .second, .val (.int (2 : Int32))] [])) _
            refine XS.iinc X209.here hx rfl (hb hby d3_54) rfl (l' := #[.val (.ref u0), .val (.int ((3 : Int32) + (1 : Int32))), .val (.long c3), .second, .val (.int (2 : Int32))]) rfl ?_
            rw [show ((3 : Int32) + (1 : Int32)) = (4 : Int32) from by decide]
            show Steps p.tables e below (T209.setTop (mkF m 57 #[.val (.ref u0), .val (.int (4 : Int32)), .val (.long c3), .second, .val (.int (2 : Int32))] [])) _
            refine XS.goto X209.here hx rfl (pc0 := 57) (pc' := 2) rfl (hb hby d3_57) (by decide) (by decide) ?_
            show Steps p.tables e below (T209.setTop (mkF m 2 #[.val (.ref u0), .val (.int (4 : Int32)), .val (.long c3), .second, .val (.int (2 : Int32))] [])) _
            refine XS.iloadN X209.here hx rfl (hb hby d3_2) rfl ?_
            show Steps p.tables e below (T209.setTop (mkF m 3 #[.val (.ref u0), .val (.int (4 : Int32)), .val (.long c3), .second, .val (.int (2 : Int32))] [(.int (4 : Int32))])) _
            refine XS.aloadN X209.here hx rfl (hb hby d3_3) rfl rfl ?_
            show Steps p.tables e below (T209.setTop (mkF m 4 #[.val (.ref u0), .val (.int (4 : Int32)), .val (.long c3), .second, .val (.int (2 : Int32))] [(.ref u0), (.int (4 : Int32))])) _
            refine X209.arraylength hx (by rw [e209]; exact Ar210.1) (State.isArrayOf_alike hZ.alike Ar210.2.1) (g := (mkF m 4 #[.val (.ref u0), .val (.int (4 : Int32)), .val (.long c3), .second, .val (.int (2 : Int32))] [(.ref u0), (.int (4 : Int32))])) rfl rfl (hb hby d3_4) _ ?_
            rw [len_of S210 M210]
            show Steps p.tables e below (T209.setTop (mkF m 5 #[.val (.ref u0), .val (.int (4 : Int32)), .val (.long c3), .second, .val (.int (2 : Int32))] [(.int (4 : Int32)), (.int (4 : Int32))])) _
            refine XS.icmpYes X209.here hx rfl (pc0 := 5) (pc' := 60) rfl (hb hby d3_5) rfl (flt (by decide : ¬ ((4 : Int32) < (4 : Int32)))).2.1 (by decide) (by decide) ?_
            show Steps p.tables e below (T209.setTop (mkF m 60 #[.val (.ref u0), .val (.int (4 : Int32)), .val (.long c3), .second, .val (.int (2 : Int32))] [])) _
            exact X209.returnOut hx Bd.returns (hb hby d3_60) hr
          · show Q3n4 Z u0 kA dv c0 c1 c2 c3 h0 n0 _ T209.heap _
            rw [e209]
            have k0 := mt Int64.lt_iff_toInt_lt.mpr hc28_5
            have k1 := Int64.lt_iff_toInt_lt.mp hc28_133
            have k2 := mt Int64.lt_iff_toInt_lt.mpr hc28_139
            have k3 := mt Int64.lt_iff_toInt_lt.mpr hc28_183
            have r0 : (own_X (own_X c0 c1) (own_X c2 c3)) = c0 := by
              apply Int64.toInt_inj.mp
              simp only [own_xi, own_ni]
              omega
            have r1 : (own_X (own_X (own_N c0 c1) (own_N c2 c3)) (own_N (own_X c0 c1) (own_X c2 c3))) = c2 := by
              apply Int64.toInt_inj.mp
              simp only [own_xi, own_ni]
              omega
            have r2 : (own_N (own_X (own_N c0 c1) (own_N c2 c3)) (own_N (own_X c0 c1) (own_X c2 c3))) = c1 := by
              apply Int64.toInt_inj.mp
              simp only [own_xi, own_ni]
              omega
            have r3 : (own_N (own_N c0 c1) (own_N c2 c3)) = c3 := by
              apply Int64.toInt_inj.mp
              simp only [own_xi, own_ni]
              omega
            refine ⟨rfl, N209, Kp209, ?_⟩
            rw [r0, r1, r2, r3]
            exact V209
    · have K : ∀ target, Steps p.tables e below (T128.setTop (mkF m 47 #[.val (.ref u0), .val (.int (2 : Int32)), .val (.long c2), .second, .val (.int (1 : Int32))] [])) target → Steps p.tables e below (T128.setTop (mkF m 28 #[.val (.ref u0), .val (.int (2 : Int32)), .val (.long c2), .second, .val (.int (1 : Int32))] [(.int (lcmpW c1 c2))])) target := by
        intro target kt
        refine XS.ifYes X128.here hx rfl (pc0 := 28) (pc' := 47) rfl (hb hby d3_28) rfl ((if0 _ _).trans (flt (fun q => hc28_133 ((lw_lt c1 c2).mp q))).2.1) (by decide) (by decide) ?_
        exact kt
      refine Done.of ?_ K
      obtain ⟨cl211, Ar211, qq211, S211, M211, H211, G211⟩ := id V128
      have hin211 : ¬ ((2 : Int32) < 0 ∨ cl211.slots.size ≤ ((2 : Int32)).toNatClampNeg) := inb_of S211 ⟨by decide, by decide⟩
      obtain ⟨T212, h212, X212, e212, W212, st212⟩ := stJ X128 hx hZ e128 Ar211 (j := (2 : Int32)) hin211 (g := (mkF m 53 #[.val (.ref u0), .val (.int (2 : Int32)), .val (.long c2), .second, .val (.int (1 : Int32))] [(.long c2), (.int (2 : Int32)), (.ref u0)])) rfl rfl (hb hby d3_53)
      have V212 : Arv Z h212 u0 kA .long (4 : Int32) [(.long c0), (.long c1), (.long c2), (.long c3)] _ := Arv.set Ar211 qq211 S211 M211 H211 G211 rfl W212 2 rfl (Nat.le_of_ble_eq_true rfl)
      have N212 := Fr.snoc X212 N128 g0
      have Z212 : n0 ≤ h212.size := Nat.le_trans Z128 (Nat.le_of_eq W212.size.symm)
      have Kp212 := Kp128.wr W212 (Or.inl (List.mem_of_getElem? (i := 0) rfl))
      obtain ⟨cl213, Ar213, qq213, S213, M213, H213, G213⟩ := id V212
      obtain ⟨cl214, Ar214, qq214, S214, M214, H214, G214⟩ := id V212
      have hin214 : ¬ ((3 : Int32) < 0 ∨ cl214.slots.size ≤ ((3 : Int32)).toNatClampNeg) := inb_of S214 ⟨by decide, by decide⟩
      have hat214 : cl214.slots[((3 : Int32)).toNatClampNeg]? = some (.long c3) := H214 3 (by rw [S214]; decide)
      obtain ⟨cl215, Ar215, qq215, S215, M215, H215, G215⟩ := id V212
      have hin215 : ¬ ((2 : Int32) < 0 ∨ cl215.slots.size ≤ ((2 : Int32)).toNatClampNeg) := inb_of S215 ⟨by decide, by decide⟩
      have hat215 : cl215.slots[((2 : Int32)).toNatClampNeg]? = some (.long c2) := H215 2 (by rw [S215]; decide)
      have K216 : ∀ target, Steps p.tables e below (T212.setTop (mkF m 28 #[.val (.ref u0), .val (.int (3 : Int32)), .val (.long c3), .second, .val (.int (2 : Int32))] [(.int (lcmpW c2 c3))])) target → Steps p.tables e below (T128.setTop (mkF m 47 #[.val (.ref u0), .val (.int (2 : Int32)), .val (.long c2), .second, .val (.int (1 : Int32))] [])) target := by
        intro target kt
        show Steps p.tables e below (T128.setTop (mkF m 47 #[.val (.ref u0), .val (.int (2 : Int32)), .val (.long c2), .second, .val (.int (1 : Int32))] [])) _
        refine XS.aloadN X128.here hx rfl (hb hby d3_47) rfl rfl ?_
        show Steps p.tables e below (T128.setTop (mkF m 48 #[.val (.ref u0), .val (.int (2 : Int32)), .val (.long c2), .second, .val (.int (1 : Int32))] [(.ref u0)])) _
        refine XS.iload X128.here hx rfl (hb hby d3_48) rfl ?_
        show Steps p.tables e below (T128.setTop (mkF m 50 #[.val (.ref u0), .val (.int (2 : Int32)), .val (.long c2), .second, .val (.int (1 : Int32))] [(.int (1 : Int32)), (.ref u0)])) _
        refine XS.iconst X128.here hx rfl (hb hby d3_50) ?_
        show Steps p.tables e below (T128.setTop (mkF m 51 #[.val (.ref u0), .val (.int (2 : Int32)), .val (.long c2), .second, .val (.int (1 : Int32))] [(.int (1 : Int32)), (.int (1 : Int32)), (.ref u0)])) _
        refine XS.iadd X128.here hx rfl (hb hby d3_51) rfl ?_
        rw [show ((1 : Int32) + (1 : Int32)) = (2 : Int32) from by decide]
        show Steps p.tables e below (T128.setTop (mkF m 52 #[.val (.ref u0), .val (.int (2 : Int32)), .val (.long c2), .second, .val (.int (1 : Int32))] [(.int (2 : Int32)), (.ref u0)])) _
        refine XS.lloadN X128.here hx rfl (hb hby d3_52) rfl ?_
        show Steps p.tables e below (T128.setTop (mkF m 53 #[.val (.ref u0), .val (.int (2 : Int32)), .val (.long c2), .second, .val (.int (1 : Int32))] [(.long c2), (.int (2 : Int32)), (.ref u0)])) _
        refine st212 _ ?_
        show Steps p.tables e below (T212.setTop (mkF m 54 #[.val (.ref u0), .val (.int (2 : Int32)), .val (.long c2), .second, .val (.int (1 : Int32))] [])) _
        refine XS.iinc X212.here hx rfl (hb hby d3_54) rfl (l' := #[.val (.ref u0), .val (.int ((2 : Int32) + (1 : Int32))), .val (.long c2), .second, .val (.int (1 : Int32))]) rfl ?_
        rw [show ((2 : Int32) + (1 : Int32)) = (3 : Int32) from by decide]
        show Steps p.tables e below (T212.setTop (mkF m 57 #[.val (.ref u0), .val (.int (3 : Int32)), .val (.long c2), .second, .val (.int (1 : Int32))] [])) _
        refine XS.goto X212.here hx rfl (pc0 := 57) (pc' := 2) rfl (hb hby d3_57) (by decide) (by decide) ?_
        show Steps p.tables e below (T212.setTop (mkF m 2 #[.val (.ref u0), .val (.int (3 : Int32)), .val (.long c2), .second, .val (.int (1 : Int32))] [])) _
        refine XS.iloadN X212.here hx rfl (hb hby d3_2) rfl ?_
        show Steps p.tables e below (T212.setTop (mkF m 3 #[.val (.ref u0), .val (.int (3 : Int32)), .val (.long c2), .second, .val (.int (1 : Int32))] [(.int (3 : Int32))])) _
        refine XS.aloadN X212.here hx rfl (hb hby d3_3) rfl rfl ?_
        show Steps p.tables e below (T212.setTop (mkF m 4 #[.val (.ref u0), .val (.int (3 : Int32)), .val (.long c2), .second, .val (.int (1 : Int32))] [(.ref u0), (.int (3 : Int32))])) _
        refine X212.arraylength hx (by rw [e212]; exact Ar213.1) (State.isArrayOf_alike hZ.alike Ar213.2.1) (g := (mkF m 4 #[.val (.ref u0), .val (.int (3 : Int32)), .val (.long c2), .second, .val (.int (1 : Int32))] [(.ref u0), (.int (3 : Int32))])) rfl rfl (hb hby d3_4) _ ?_
        rw [len_of S213 M213]
        show Steps p.tables e below (T212.setTop (mkF m 5 #[.val (.ref u0), .val (.int (3 : Int32)), .val (.long c2), .second, .val (.int (1 : Int32))] [(.int (4 : Int32)), (.int (3 : Int32))])) _
        refine XS.icmpNo X212.here hx rfl (hb hby d3_5) rfl (tlt (by decide : (3 : Int32) < (4 : Int32))).2.1 ?_
        show Steps p.tables e below (T212.setTop (mkF m 8 #[.val (.ref u0), .val (.int (3 : Int32)), .val (.long c2), .second, .val (.int (1 : Int32))] [])) _
        refine XS.aloadN X212.here hx rfl (hb hby d3_8) rfl rfl ?_
        show Steps p.tables e below (T212.setTop (mkF m 9 #[.val (.ref u0), .val (.int (3 : Int32)), .val (.long c2), .second, .val (.int (1 : Int32))] [(.ref u0)])) _
        refine XS.iloadN X212.here hx rfl (hb hby d3_9) rfl ?_
        show Steps p.tables e below (T212.setTop (mkF m 10 #[.val (.ref u0), .val (.int (3 : Int32)), .val (.long c2), .second, .val (.int (1 : Int32))] [(.int (3 : Int32)), (.ref u0)])) _
        refine X212.laload hx (j := (3 : Int32)) (v := (.long c3)) (by rw [e212]; exact Ar214.1) (State.isArrayOf_alike hZ.alike Ar214.2.1) Ar214.2.2 hin214 hat214 (g := (mkF m 10 #[.val (.ref u0), .val (.int (3 : Int32)), .val (.long c2), .second, .val (.int (1 : Int32))] [(.int (3 : Int32)), (.ref u0)])) rfl rfl (hb hby d3_10) _ ?_
        show Steps p.tables e below (T212.setTop (mkF m 11 #[.val (.ref u0), .val (.int (3 : Int32)), .val (.long c2), .second, .val (.int (1 : Int32))] [(.long c3)])) _
        refine XS.lstoreN X212.here hx rfl (hb hby d3_11) rfl (l' := #[.val (.ref u0), .val (.int (3 : Int32)), .val (.long c3), .second, .val (.int (1 : Int32))]) rfl ?_
        show Steps p.tables e below (T212.setTop (mkF m 12 #[.val (.ref u0), .val (.int (3 : Int32)), .val (.long c3), .second, .val (.int (1 : Int32))] [])) _
        refine XS.iloadN X212.here hx rfl (hb hby d3_12) rfl ?_
        show Steps p.tables e below (T212.setTop (mkF m 13 #[.val (.ref u0), .val (.int (3 : Int32)), .val (.long c3), .second, .val (.int (1 : Int32))] [(.int (3 : Int32))])) _
        refine XS.iconst X212.here hx rfl (hb hby d3_13) ?_
        show Steps p.tables e below (T212.setTop (mkF m 14 #[.val (.ref u0), .val (.int (3 : Int32)), .val (.long c3), .second, .val (.int (1 : Int32))] [(.int (1 : Int32)), (.int (3 : Int32))])) _
        refine XS.isub X212.here hx rfl (hb hby d3_14) rfl ?_
        rw [show ((3 : Int32) - (1 : Int32)) = (2 : Int32) from by decide]
        show Steps p.tables e below (T212.setTop (mkF m 15 #[.val (.ref u0), .val (.int (3 : Int32)), .val (.long c3), .second, .val (.int (1 : Int32))] [(.int (2 : Int32))])) _
        refine XS.istore X212.here hx rfl (hb hby d3_15) rfl (l' := #[.val (.ref u0), .val (.int (3 : Int32)), .val (.long c3), .second, .val (.int (2 : Int32))]) rfl ?_
        show Steps p.tables e below (T212.setTop (mkF m 17 #[.val (.ref u0), .val (.int (3 : Int32)), .val (.long c3), .second, .val (.int (2 : Int32))] [])) _
        refine XS.iload X212.here hx rfl (hb hby d3_17) rfl ?_
        show Steps p.tables e below (T212.setTop (mkF m 19 #[.val (.ref u0), .val (.int (3 : Int32)), .val (.long c3), .second, .val (.int (2 : Int32))] [(.int (2 : Int32))])) _
        refine XS.ifNo X212.here hx rfl (hb hby d3_19) rfl ((if0 _ _).trans (flt (by decide : ¬ ((2 : Int32) < (0 : Int32)))).1) ?_
        show Steps p.tables e below (T212.setTop (mkF m 22 #[.val (.ref u0), .val (.int (3 : Int32)), .val (.long c3), .second, .val (.int (2 : Int32))] [])) _
        refine XS.aloadN X212.here hx rfl (hb hby d3_22) rfl rfl ?_
        show Steps p.tables e below (T212.setTop (mkF m 23 #[.val (.ref u0), .val (.int (3 : Int32)), .val (.long c3), .second, .val (.int (2 : Int32))] [(.ref u0)])) _
        refine XS.iload X212.here hx rfl (hb hby d3_23) rfl ?_
        show Steps p.tables e below (T212.setTop (mkF m 25 #[.val (.ref u0), .val (.int (3 : Int32)), .val (.long c3), .second, .val (.int (2 : Int32))] [(.int (2 : Int32)), (.ref u0)])) _
        refine X212.laload hx (j := (2 : Int32)) (v := (.long c2)) (by rw [e212]; exact Ar215.1) (State.isArrayOf_alike hZ.alike Ar215.2.1) Ar215.2.2 hin215 hat215 (g := (mkF m 25 #[.val (.ref u0), .val (.int (3 : Int32)), .val (.long c3), .second, .val (.int (2 : Int32))] [(.int (2 : Int32)), (.ref u0)])) rfl rfl (hb hby d3_25) _ ?_
        show Steps p.tables e below (T212.setTop (mkF m 26 #[.val (.ref u0), .val (.int (3 : Int32)), .val (.long c3), .second, .val (.int (2 : Int32))] [(.long c2)])) _
        refine XS.lloadN X212.here hx rfl (hb hby d3_26) rfl ?_
        show Steps p.tables e below (T212.setTop (mkF m 27 #[.val (.ref u0), .val (.int (3 : Int32)), .val (.long c3), .second, .val (.int (2 : Int32))] [(.long c3), (.long c2)])) _
        refine XS.lcmp X212.here hx rfl (hb hby d3_27) rfl ?_
        exact kt
      refine Done.of ?_ K216
      by_cases hc28_217 : c2 < c3
      · have K : ∀ target, Steps p.tables e below (T212.setTop (mkF m 31 #[.val (.ref u0), .val (.int (3 : Int32)), .val (.long c3), .second, .val (.int (2 : Int32))] [])) target → Steps p.tables e below (T212.setTop (mkF m 28 #[.val (.ref u0), .val (.int (3 : Int32)), .val (.long c3), .second, .val (.int (2 : Int32))] [(.int (lcmpW c2 c3))])) target := by
          intro target kt
          refine XS.ifNo X212.here hx rfl (hb hby d3_28) rfl ((if0 _ _).trans (tlt ((lw_lt c2 c3).mpr hc28_217)).2.1) ?_
          exact kt
        refine Done.of ?_ K
        obtain ⟨cl218, Ar218, qq218, S218, M218, H218, G218⟩ := id V212
        have hin218 : ¬ ((2 : Int32) < 0 ∨ cl218.slots.size ≤ ((2 : Int32)).toNatClampNeg) := inb_of S218 ⟨by decide, by decide⟩
        have hat218 : cl218.slots[((2 : Int32)).toNatClampNeg]? = some (.long c2) := H218 2 (by rw [S218]; decide)
        obtain ⟨cl219, Ar219, qq219, S219, M219, H219, G219⟩ := id V212
        have hin219 : ¬ ((3 : Int32) < 0 ∨ cl219.slots.size ≤ ((3 : Int32)).toNatClampNeg) := inb_of S219 ⟨by decide, by decide⟩
        obtain ⟨T220, h220, X220, e220, W220, st220⟩ := stJ X212 hx hZ e212 Ar219 (j := (3 : Int32)) hin219 (g := (mkF m 40 #[.val (.ref u0), .val (.int (3 : Int32)), .val (.long c3), .second, .val (.int (2 : Int32))] [(.long c2), (.int (3 : Int32)), (.ref u0)])) rfl rfl (hb hby d3_40)
        have V220 : Arv Z h220 u0 kA .long (4 : Int32) [(.long c0), (.long c1), (.long c2), (.long c2)] _ := Arv.set Ar219 qq219 S219 M219 H219 G219 rfl W220 3 rfl (Nat.le_of_ble_eq_true rfl)
        have N220 := Fr.snoc X220 N212 g0
        have Z220 : n0 ≤ h220.size := Nat.le_trans Z212 (Nat.le_of_eq W220.size.symm)
        have Kp220 := Kp212.wr W220 (Or.inl (List.mem_of_getElem? (i := 0) rfl))
        obtain ⟨cl221, Ar221, qq221, S221, M221, H221, G221⟩ := id V220
        have hin221 : ¬ ((1 : Int32) < 0 ∨ cl221.slots.size ≤ ((1 : Int32)).toNatClampNeg) := inb_of S221 ⟨by decide, by decide⟩
        have hat221 : cl221.slots[((1 : Int32)).toNatClampNeg]? = some (.long c1) := H221 1 (by rw [S221]; decide)
        have K222 : ∀ target, Steps p.tables e below (T220.setTop (mkF m 28 #[.val (.ref u0), .val (.int (3 : Int32)), .val (.long c3), .second, .val (.int (1 : Int32))] [(.int (lcmpW c1 c3))])) target → Steps p.tables e below (T212.setTop (mkF m 31 #[.val (.ref u0), .val (.int (3 : Int32)), .val (.long c3), .second, .val (.int (2 : Int32))] [])) target := by
          intro target kt
          show Steps p.tables e below (T212.setTop (mkF m 31 #[.val (.ref u0), .val (.int (3 : Int32)), .val (.long c3), .second, .val (.int (2 : Int32))] [])) _
          refine XS.aloadN X212.here hx rfl (hb hby d3_31) rfl rfl ?_
          show Steps p.tables e below (T212.setTop (mkF m 32 #[.val (.ref u0), .val (.int (3 : Int32)), .val (.long c3), .second, .val (.int (2 : Int32))] [(.ref u0)])) _
          refine XS.iload X212.here hx rfl (hb hby d3_32) rfl ?_
          show Steps p.tables e below (T212.setTop (mkF m 34 #[.val (.ref u0), .val (.int (3 : Int32)), .val (.long c3), .second, .val (.int (2 : Int32))] [(.int (2 : Int32)), (.ref u0)])) _
          refine XS.iconst X212.here hx rfl (hb hby d3_34) ?_
          show Steps p.tables e below (T212.setTop (mkF m 35 #[.val (.ref u0), .val (.int (3 : Int32)), .val (.long c3), .second, .val (.int (2 : Int32))] [(.int (1 : Int32)), (.int (2 : Int32)), (.ref u0)])) _
          refine XS.iadd X212.here hx rfl (hb hby d3_35) rfl ?_
          rw [show ((2 : Int32) + (1 : Int32)) = (3 : Int32) from by decide]
          show Steps p.tables e below (T212.setTop (mkF m 36 #[.val (.ref u0), .val (.int (3 : Int32)), .val (.long c3), .second, .val (.int (2 : Int32))] [(.int (3 : Int32)), (.ref u0)])) _
          refine XS.aloadN X212.here hx rfl (hb hby d3_36) rfl rfl ?_
          show Steps p.tables e below (T212.setTop (mkF m 37 #[.val (.ref u0), .val (.int (3 : Int32)), .val (.long c3), .second, .val (.int (2 : Int32))] [(.ref u0), (.int (3 : Int32)), (.ref u0)])) _
          refine XS.iload X212.here hx rfl (hb hby d3_37) rfl ?_
          show Steps p.tables e below (T212.setTop (mkF m 39 #[.val (.ref u0), .val (.int (3 : Int32)), .val (.long c3), .second, .val (.int (2 : Int32))] [(.int (2 : Int32)), (.ref u0), (.int (3 : Int32)), (.ref u0)])) _
          refine X212.laload hx (j := (2 : Int32)) (v := (.long c2)) (by rw [e212]; exact Ar218.1) (State.isArrayOf_alike hZ.alike Ar218.2.1) Ar218.2.2 hin218 hat218 (g := (mkF m 39 #[.val (.ref u0), .val (.int (3 : Int32)), .val (.long c3), .second, .val (.int (2 : Int32))] [(.int (2 : Int32)), (.ref u0), (.int (3 : Int32)), (.ref u0)])) rfl rfl (hb hby d3_39) _ ?_
          show Steps p.tables e below (T212.setTop (mkF m 40 #[.val (.ref u0), .val (.int (3 : Int32)), .val (.long c3), .second, .val (.int (2 : Int32))] [(.long c2), (.int (3 : Int32)), (.ref u0)])) _
          refine st220 _ ?_
          show Steps p.tables e below (T220.setTop (mkF m 41 #[.val (.ref u0), .val (.int (3 : Int32)), .val (.long c3), .second, .val (.int (2 : Int32))] [])) _
          refine XS.iinc X220.here hx rfl (hb hby d3_41) rfl (l' := #[.val (.ref u0), .val (.int (3 : Int32)), .val (.long c3), .second, .val (.int ((2 : Int32) + (-1 : Int32)))]) rfl ?_
          rw [show ((2 : Int32) + (-1 : Int32)) = (1 : Int32) from by decide]
          show Steps p.tables e below (T220.setTop (mkF m 44 #[.val (.ref u0), .val (.int (3 : Int32)), .val (.long c3), .second, .val (.int (1 : Int32))] [])) _
          refine XS.goto X220.here hx rfl (pc0 := 44) (pc' := 17) rfl (hb hby d3_44) (by decide) (by decide) ?_
          show Steps p.tables e below (T220.setTop (mkF m 17 #[.val (.ref u0), .val (.int (3 : Int32)), .val (.long c3), .second, .val (.int (1 : Int32))] [])) _
          refine XS.iload X220.here hx rfl (hb hby d3_17) rfl ?_
          show Steps p.tables e below (T220.setTop (mkF m 19 #[.val (.ref u0), .val (.int (3 : Int32)), .val (.long c3), .second, .val (.int (1 : Int32))] [(.int (1 : Int32))])) _
          refine XS.ifNo X220.here hx rfl (hb hby d3_19) rfl ((if0 _ _).trans (flt (by decide : ¬ ((1 : Int32) < (0 : Int32)))).1) ?_
          show Steps p.tables e below (T220.setTop (mkF m 22 #[.val (.ref u0), .val (.int (3 : Int32)), .val (.long c3), .second, .val (.int (1 : Int32))] [])) _
          refine XS.aloadN X220.here hx rfl (hb hby d3_22) rfl rfl ?_
          show Steps p.tables e below (T220.setTop (mkF m 23 #[.val (.ref u0), .val (.int (3 : Int32)), .val (.long c3), .second, .val (.int (1 : Int32))] [(.ref u0)])) _
          refine XS.iload X220.here hx rfl (hb hby d3_23) rfl ?_
          show Steps p.tables e below (T220.setTop (mkF m 25 #[.val (.ref u0), .val (.int (3 : Int32)), .val (.long c3), .second, .val (.int (1 : Int32))] [(.int (1 : Int32)), (.ref u0)])) _
          refine X220.laload hx (j := (1 : Int32)) (v := (.long c1)) (by rw [e220]; exact Ar221.1) (State.isArrayOf_alike hZ.alike Ar221.2.1) Ar221.2.2 hin221 hat221 (g := (mkF m 25 #[.val (.ref u0), .val (.int (3 : Int32)), .val (.long c3), .second, .val (.int (1 : Int32))] [(.int (1 : Int32)), (.ref u0)])) rfl rfl (hb hby d3_25) _ ?_
          show Steps p.tables e below (T220.setTop (mkF m 26 #[.val (.ref u0), .val (.int (3 : Int32)), .val (.long c3), .second, .val (.int (1 : Int32))] [(.long c1)])) _
          refine XS.lloadN X220.here hx rfl (hb hby d3_26) rfl ?_
          show Steps p.tables e below (T220.setTop (mkF m 27 #[.val (.ref u0), .val (.int (3 : Int32)), .val (.long c3), .second, .val (.int (1 : Int32))] [(.long c3), (.long c1)])) _
          refine XS.lcmp X220.here hx rfl (hb hby d3_27) rfl ?_
          exact kt
        refine Done.of ?_ K222
        by_cases hc28_223 : c1 < c3
        · have K : ∀ target, Steps p.tables e below (T220.setTop (mkF m 31 #[.val (.ref u0), .val (.int (3 : Int32)), .val (.long c3), .second, .val (.int (1 : Int32))] [])) target → Steps p.tables e below (T220.setTop (mkF m 28 #[.val (.ref u0), .val (.int (3 : Int32)), .val (.long c3), .second, .val (.int (1 : Int32))] [(.int (lcmpW c1 c3))])) target := by
            intro target kt
            refine XS.ifNo X220.here hx rfl (hb hby d3_28) rfl ((if0 _ _).trans (tlt ((lw_lt c1 c3).mpr hc28_223)).2.1) ?_
            exact kt
          refine Done.of ?_ K
          obtain ⟨cl224, Ar224, qq224, S224, M224, H224, G224⟩ := id V220
          have hin224 : ¬ ((1 : Int32) < 0 ∨ cl224.slots.size ≤ ((1 : Int32)).toNatClampNeg) := inb_of S224 ⟨by decide, by decide⟩
          have hat224 : cl224.slots[((1 : Int32)).toNatClampNeg]? = some (.long c1) := H224 1 (by rw [S224]; decide)
          obtain ⟨cl225, Ar225, qq225, S225, M225, H225, G225⟩ := id V220
          have hin225 : ¬ ((2 : Int32) < 0 ∨ cl225.slots.size ≤ ((2 : Int32)).toNatClampNeg) := inb_of S225 ⟨by decide, by decide⟩
          obtain ⟨T226, h226, X226, e226, W226, st226⟩ := stJ X220 hx hZ e220 Ar225 (j := (2 : Int32)) hin225 (g := (mkF m 40 #[.val (.ref u0), .val (.int (3 : Int32)), .val (.long c3), .second, .val (.int (1 : Int32))] [(.long c1), (.int (2 : Int32)), (.ref u0)])) rfl rfl (hb hby d3_40)
          have V226 : Arv Z h226 u0 kA .long (4 : Int32) [(.long c0), (.long c1), (.long c1), (.long c2)] _ := Arv.set Ar225 qq225 S225 M225 H225 G225 rfl W226 2 rfl (Nat.le_of_ble_eq_true rfl)
          have N226 := Fr.snoc X226 N220 g0
          have Z226 : n0 ≤ h226.size := Nat.le_trans Z220 (Nat.le_of_eq W226.size.symm)
          have Kp226 := Kp220.wr W226 (Or.inl (List.mem_of_getElem? (i := 0) rfl))
          obtain ⟨cl227, Ar227, qq227, S227, M227, H227, G227⟩ := id V226
          have hin227 : ¬ ((0 : Int32) < 0 ∨ cl227.slots.size ≤ ((0 : Int32)).toNatClampNeg) := inb_of S227 ⟨by decide, by decide⟩
          have hat227 : cl227.slots[((0 : Int32)).toNatClampNeg]? = some (.long c0) := H227 0 (by rw [S227]; decide)
          have K228 : ∀ target, Steps p.tables e below (T226.setTop (mkF m 28 #[.val (.ref u0), .val (.int (3 : Int32)), .val (.long c3), .second, .val (.int (0 : Int32))] [(.int (lcmpW c0 c3))])) target → Steps p.tables e below (T220.setTop (mkF m 31 #[.val (.ref u0), .val (.int (3 : Int32)), .val (.long c3), .second, .val (.int (1 : Int32))] [])) target := by
            intro target kt
            show Steps p.tables e below (T220.setTop (mkF m 31 #[.val (.ref u0), .val (.int (3 : Int32)), .val (.long c3), .second, .val (.int (1 : Int32))] [])) _
            refine XS.aloadN X220.here hx rfl (hb hby d3_31) rfl rfl ?_
            show Steps p.tables e below (T220.setTop (mkF m 32 #[.val (.ref u0), .val (.int (3 : Int32)), .val (.long c3), .second, .val (.int (1 : Int32))] [(.ref u0)])) _
            refine XS.iload X220.here hx rfl (hb hby d3_32) rfl ?_
            show Steps p.tables e below (T220.setTop (mkF m 34 #[.val (.ref u0), .val (.int (3 : Int32)), .val (.long c3), .second, .val (.int (1 : Int32))] [(.int (1 : Int32)), (.ref u0)])) _
            refine XS.iconst X220.here hx rfl (hb hby d3_34) ?_
            show Steps p.tables e below (T220.setTop (mkF m 35 #[.val (.ref u0), .val (.int (3 : Int32)), .val (.long c3), .second, .val (.int (1 : Int32))] [(.int (1 : Int32)), (.int (1 : Int32)), (.ref u0)])) _
            refine XS.iadd X220.here hx rfl (hb hby d3_35) rfl ?_
            rw [show ((1 : Int32) + (1 : Int32)) = (2 : Int32) from by decide]
            show Steps p.tables e below (T220.setTop (mkF m 36 #[.val (.ref u0), .val (.int (3 : Int32)), .val (.long c3), .second, .val (.int (1 : Int32))] [(.int (2 : Int32)), (.ref u0)])) _
            refine XS.aloadN X220.here hx rfl (hb hby d3_36) rfl rfl ?_
            show Steps p.tables e below (T220.setTop (mkF m 37 #[.val (.ref u0), .val (.int (3 : Int32)), .val (.long c3), .second, .val (.int (1 : Int32))] [(.ref u0), (.int (2 : Int32)), (.ref u0)])) _
            refine XS.iload X220.here hx rfl (hb hby d3_37) rfl ?_
            show Steps p.tables e below (T220.setTop (mkF m 39 #[.val (.ref u0), .val (.int (3 : Int32)), .val (.long c3), .second, .val (.int (1 : Int32))] [(.int (1 : Int32)), (.ref u0), (.int (2 : Int32)), (.ref u0)])) _
            refine X220.laload hx (j := (1 : Int32)) (v := (.long c1)) (by rw [e220]; exact Ar224.1) (State.isArrayOf_alike hZ.alike Ar224.2.1) Ar224.2.2 hin224 hat224 (g := (mkF m 39 #[.val (.ref u0), .val (.int (3 : Int32)), .val (.long c3), .second, .val (.int (1 : Int32))] [(.int (1 : Int32)), (.ref u0), (.int (2 : Int32)), (.ref u0)])) rfl rfl (hb hby d3_39) _ ?_
            show Steps p.tables e below (T220.setTop (mkF m 40 #[.val (.ref u0), .val (.int (3 : Int32)), .val (.long c3), .second, .val (.int (1 : Int32))] [(.long c1), (.int (2 : Int32)), (.ref u0)])) _
            refine st226 _ ?_
            show Steps p.tables e below (T226.setTop (mkF m 41 #[.val (.ref u0), .val (.int (3 : Int32)), .val (.long c3), .second, .val (.int (1 : Int32))] [])) _
            refine XS.iinc X226.here hx rfl (hb hby d3_41) rfl (l' := #[.val (.ref u0), .val (.int (3 : Int32)), .val (.long c3), .second, .val (.int ((1 : Int32) + (-1 : Int32)))]) rfl ?_
            rw [show ((1 : Int32) + (-1 : Int32)) = (0 : Int32) from by decide]
            show Steps p.tables e below (T226.setTop (mkF m 44 #[.val (.ref u0), .val (.int (3 : Int32)), .val (.long c3), .second, .val (.int (0 : Int32))] [])) _
            refine XS.goto X226.here hx rfl (pc0 := 44) (pc' := 17) rfl (hb hby d3_44) (by decide) (by decide) ?_
            show Steps p.tables e below (T226.setTop (mkF m 17 #[.val (.ref u0), .val (.int (3 : Int32)), .val (.long c3), .second, .val (.int (0 : Int32))] [])) _
            refine XS.iload X226.here hx rfl (hb hby d3_17) rfl ?_
            show Steps p.tables e below (T226.setTop (mkF m 19 #[.val (.ref u0), .val (.int (3 : Int32)), .val (.long c3), .second, .val (.int (0 : Int32))] [(.int (0 : Int32))])) _
            refine XS.ifNo X226.here hx rfl (hb hby d3_19) rfl ((if0 _ _).trans (flt (by decide : ¬ ((0 : Int32) < (0 : Int32)))).1) ?_
            show Steps p.tables e below (T226.setTop (mkF m 22 #[.val (.ref u0), .val (.int (3 : Int32)), .val (.long c3), .second, .val (.int (0 : Int32))] [])) _
            refine XS.aloadN X226.here hx rfl (hb hby d3_22) rfl rfl ?_
            show Steps p.tables e below (T226.setTop (mkF m 23 #[.val (.ref u0), .val (.int (3 : Int32)), .val (.long c3), .second, .val (.int (0 : Int32))] [(.ref u0)])) _
            refine XS.iload X226.here hx rfl (hb hby d3_23) rfl ?_
            show Steps p.tables e below (T226.setTop (mkF m 25 #[.val (.ref u0), .val (.int (3 : Int32)), .val (.long c3), .second, .val (.int (0 : Int32))] [(.int (0 : Int32)), (.ref u0)])) _
            refine X226.laload hx (j := (0 : Int32)) (v := (.long c0)) (by rw [e226]; exact Ar227.1) (State.isArrayOf_alike hZ.alike Ar227.2.1) Ar227.2.2 hin227 hat227 (g := (mkF m 25 #[.val (.ref u0), .val (.int (3 : Int32)), .val (.long c3), .second, .val (.int (0 : Int32))] [(.int (0 : Int32)), (.ref u0)])) rfl rfl (hb hby d3_25) _ ?_
            show Steps p.tables e below (T226.setTop (mkF m 26 #[.val (.ref u0), .val (.int (3 : Int32)), .val (.long c3), .second, .val (.int (0 : Int32))] [(.long c0)])) _
            refine XS.lloadN X226.here hx rfl (hb hby d3_26) rfl ?_
            show Steps p.tables e below (T226.setTop (mkF m 27 #[.val (.ref u0), .val (.int (3 : Int32)), .val (.long c3), .second, .val (.int (0 : Int32))] [(.long c3), (.long c0)])) _
            refine XS.lcmp X226.here hx rfl (hb hby d3_27) rfl ?_
            exact kt
          refine Done.of ?_ K228
          by_cases hc28_229 : c0 < c3
          · have K : ∀ target, Steps p.tables e below (T226.setTop (mkF m 31 #[.val (.ref u0), .val (.int (3 : Int32)), .val (.long c3), .second, .val (.int (0 : Int32))] [])) target → Steps p.tables e below (T226.setTop (mkF m 28 #[.val (.ref u0), .val (.int (3 : Int32)), .val (.long c3), .second, .val (.int (0 : Int32))] [(.int (lcmpW c0 c3))])) target := by
              intro target kt
              refine XS.ifNo X226.here hx rfl (hb hby d3_28) rfl ((if0 _ _).trans (tlt ((lw_lt c0 c3).mpr hc28_229)).2.1) ?_
              exact kt
            refine Done.of ?_ K
            obtain ⟨cl230, Ar230, qq230, S230, M230, H230, G230⟩ := id V226
            have hin230 : ¬ ((0 : Int32) < 0 ∨ cl230.slots.size ≤ ((0 : Int32)).toNatClampNeg) := inb_of S230 ⟨by decide, by decide⟩
            have hat230 : cl230.slots[((0 : Int32)).toNatClampNeg]? = some (.long c0) := H230 0 (by rw [S230]; decide)
            obtain ⟨cl231, Ar231, qq231, S231, M231, H231, G231⟩ := id V226
            have hin231 : ¬ ((1 : Int32) < 0 ∨ cl231.slots.size ≤ ((1 : Int32)).toNatClampNeg) := inb_of S231 ⟨by decide, by decide⟩
            obtain ⟨T232, h232, X232, e232, W232, st232⟩ := stJ X226 hx hZ e226 Ar231 (j := (1 : Int32)) hin231 (g := (mkF m 40 #[.val (.ref u0), .val (.int (3 : Int32)), .val (.long c3), .second, .val (.int (0 : Int32))] [(.long c0), (.int (1 : Int32)), (.ref u0)])) rfl rfl (hb hby d3_40)
            have V232 : Arv Z h232 u0 kA .long (4 : Int32) [(.long c0), (.long c0), (.long c1), (.long c2)] _ := Arv.set Ar231 qq231 S231 M231 H231 G231 rfl W232 1 rfl (Nat.le_of_ble_eq_true rfl)
            have N232 := Fr.snoc X232 N226 g0
            have Z232 : n0 ≤ h232.size := Nat.le_trans Z226 (Nat.le_of_eq W232.size.symm)
            have Kp232 := Kp226.wr W232 (Or.inl (List.mem_of_getElem? (i := 0) rfl))
            obtain ⟨cl233, Ar233, qq233, S233, M233, H233, G233⟩ := id V232
            have hin233 : ¬ ((0 : Int32) < 0 ∨ cl233.slots.size ≤ ((0 : Int32)).toNatClampNeg) := inb_of S233 ⟨by decide, by decide⟩
            obtain ⟨T234, h234, X234, e234, W234, st234⟩ := stJ X232 hx hZ e232 Ar233 (j := (0 : Int32)) hin233 (g := (mkF m 53 #[.val (.ref u0), .val (.int (3 : Int32)), .val (.long c3), .second, .val (.int (-1 : Int32))] [(.long c3), (.int (0 : Int32)), (.ref u0)])) rfl rfl (hb hby d3_53)
            have V234 : Arv Z h234 u0 kA .long (4 : Int32) [(.long c3), (.long c0), (.long c1), (.long c2)] _ := Arv.set Ar233 qq233 S233 M233 H233 G233 rfl W234 0 rfl (Nat.le_of_ble_eq_true rfl)
            have N234 := Fr.snoc X234 N232 g0
            have Z234 : n0 ≤ h234.size := Nat.le_trans Z232 (Nat.le_of_eq W234.size.symm)
            have Kp234 := Kp232.wr W234 (Or.inl (List.mem_of_getElem? (i := 0) rfl))
            obtain ⟨cl235, Ar235, qq235, S235, M235, H235, G235⟩ := id V234
            obtain ⟨fs, hr, hrun, hended, hW, hsame⟩ := X234.leave (v := none) (fun _ => rfl)
            refine ⟨_, _, ?_, hrun, hended, _, _, rfl, ?_, ⟨_, rfl⟩, hW, hsame.mono (by decide) (by decide)⟩
            · show Steps p.tables e below (T226.setTop (mkF m 31 #[.val (.ref u0), .val (.int (3 : Int32)), .val (.long c3), .second, .val (.int (0 : Int32))] [])) _
              refine XS.aloadN X226.here hx rfl (hb hby d3_31) rfl rfl ?_
              show Steps p.tables e below (T226.setTop (mkF m 32 #[.val (.ref u0), .val (.int (3 : Int32)), .val (.long c3), .second, .val (.int (0 : Int32))] [(.ref u0)])) _
              refine XS.iload X226.here hx rfl (hb hby d3_32) rfl ?_
              show Steps p.tables e below (T226.setTop (mkF m 34 #[.val (.ref u0), .val (.int (3 : Int32)), .val (.long c3), .second, .val (.int (0 : Int32))] [(.int (0 : Int32)), (.ref u0)])) _
              refine XS.iconst X226.here hx rfl (hb hby d3_34) ?_
              show Steps p.tables e below (T226.setTop (mkF m 35 #[.val (.ref u0), .val (.int (3 : Int32)), .val (.long c3), .second, .val (.int (0 : Int32))] [(.int (1 : Int32)), (.int (0 : Int32)), (.ref u0)])) _
              refine XS.iadd X226.here hx rfl (hb hby d3_35) rfl ?_
              rw [show ((0 : Int32) + (1 : Int32)) = (1 : Int32) from by decide]
              show Steps p.tables e below (T226.setTop (mkF m 36 #[.val (.ref u0), .val (.int (3 : Int32)), .val (.long c3), .second, .val (.int (0 : Int32))] [(.int (1 : Int32)), (.ref u0)])) _
              refine XS.aloadN X226.here hx rfl (hb hby d3_36) rfl rfl ?_
              show Steps p.tables e below (T226.setTop (mkF m 37 #[.val (.ref u0), .val (.int (3 : Int32)), .val (.long c3), .second, .val (.int (0 : Int32))] [(.ref u0), (.int (1 : Int32)), (.ref u0)])) _
              refine XS.iload X226.here hx rfl (hb hby d3_37) rfl ?_
              show Steps p.tables e below (T226.setTop (mkF m 39 #[.val (.ref u0), .val (.int (3 : Int32)), .val (.long c3), .second, .val (.int (0 : Int32))] [(.int (0 : Int32)), (.ref u0), (.int (1 : Int32)), (.ref u0)])) _
              refine X226.laload hx (j := (0 : Int32)) (v := (.long c0)) (by rw [e226]; exact Ar230.1) (State.isArrayOf_alike hZ.alike Ar230.2.1) Ar230.2.2 hin230 hat230 (g := (mkF m 39 #[.val (.ref u0), .val (.int (3 : Int32)), .val (.long c3), .second, .val (.int (0 : Int32))] [(.int (0 : Int32)), (.ref u0), (.int (1 : Int32)), (.ref u0)])) rfl rfl (hb hby d3_39) _ ?_
              show Steps p.tables e below (T226.setTop (mkF m 40 #[.val (.ref u0), .val (.int (3 : Int32)), .val (.long c3), .second, .val (.int (0 : Int32))] [(.long c0), (.int (1 : Int32)), (.ref u0)])) _
              refine st232 _ ?_
              show Steps p.tables e below (T232.setTop (mkF m 41 #[.val (.ref u0), .val (.int (3 : Int32)), .val (.long c3), .second, .val (.int (0 : Int32))] [])) _
              refine XS.iinc X232.here hx rfl (hb hby d3_41) rfl (l' := #[.val (.ref u0), .val (.int (3 : Int32)), .val (.long c3), .second, .val (.int ((0 : Int32) + (-1 : Int32)))]) rfl ?_
              rw [show ((0 : Int32) + (-1 : Int32)) = (-1 : Int32) from by decide]
              show Steps p.tables e below (T232.setTop (mkF m 44 #[.val (.ref u0), .val (.int (3 : Int32)), .val (.long c3), .second, .val (.int (-1 : Int32))] [])) _
              refine XS.goto X232.here hx rfl (pc0 := 44) (pc' := 17) rfl (hb hby d3_44) (by decide) (by decide) ?_
              show Steps p.tables e below (T232.setTop (mkF m 17 #[.val (.ref u0), .val (.int (3 : Int32)), .val (.long c3), .second, .val (.int (-1 : Int32))] [])) _
              refine XS.iload X232.here hx rfl (hb hby d3_17) rfl ?_
              show Steps p.tables e below (T232.setTop (mkF m 19 #[.val (.ref u0), .val (.int (3 : Int32)), .val (.long c3), .second, .val (.int (-1 : Int32))] [(.int (-1 : Int32))])) _
              refine XS.ifYes X232.here hx rfl (pc0 := 19) (pc' := 47) rfl (hb hby d3_19) rfl ((if0 _ _).trans (tlt (by decide : (-1 : Int32) < (0 : Int32))).1) (by decide) (by decide) ?_
              show Steps p.tables e below (T232.setTop (mkF m 47 #[.val (.ref u0), .val (.int (3 : Int32)), .val (.long c3), .second, .val (.int (-1 : Int32))] [])) _
              refine XS.aloadN X232.here hx rfl (hb hby d3_47) rfl rfl ?_
              show Steps p.tables e below (T232.setTop (mkF m 48 #[.val (.ref u0), .val (.int (3 : Int32)), .val (.long c3), .second, .val (.int (-1 : Int32))] [(.ref u0)])) _
              refine XS.iload X232.here hx rfl (hb hby d3_48) rfl ?_
              show Steps p.tables e below (T232.setTop (mkF m 50 #[.val (.ref u0), .val (.int (3 : Int32)), .val (.long c3), .second, .val (.int (-1 : Int32))] [(.int (-1 : Int32)), (.ref u0)])) _
              refine XS.iconst X232.here hx rfl (hb hby d3_50) ?_
              show Steps p.tables e below (T232.setTop (mkF m 51 #[.val (.ref u0), .val (.int (3 : Int32)), .val (.long c3), .second, .val (.int (-1 : Int32))] [(.int (1 : Int32)), (.int (-1 : Int32)), (.ref u0)])) _
              refine XS.iadd X232.here hx rfl (hb hby d3_51) rfl ?_
              rw [show ((-1 : Int32) + (1 : Int32)) = (0 : Int32) from by decide]
              show Steps p.tables e below (T232.setTop (mkF m 52 #[.val (.ref u0), .val (.int (3 : Int32)), .val (.long c3), .second, .val (.int (-1 : Int32))] [(.int (0 : Int32)), (.ref u0)])) _
              refine XS.lloadN X232.here hx rfl (hb hby d3_52) rfl ?_
              show Steps p.tables e below (T232.setTop (mkF m 53 #[.val (.ref u0), .val (.int (3 : Int32)), .val (.long c3), .second, .val (.int (-1 : Int32))] [(.long c3), (.int (0 : Int32)), (.ref u0)])) _
              refine st234 _ ?_
              show Steps p.tables e below (T234.setTop (mkF m 54 #[.val (.ref u0), .val (.int (3 : Int32)), .val (.long c3), .second, .val (.int (-1 : Int32))] [])) _
              refine XS.iinc X234.here hx rfl (hb hby d3_54) rfl (l' := #[.val (.ref u0), .val (.int ((3 : Int32) + (1 : Int32))), .val (.long c3), .second, .val (.int (-1 : Int32))]) rfl ?_
              rw [show ((3 : Int32) + (1 : Int32)) = (4 : Int32) from by decide]
              show Steps p.tables e below (T234.setTop (mkF m 57 #[.val (.ref u0), .val (.int (4 : Int32)), .val (.long c3), .second, .val (.int (-1 : Int32))] [])) _
              refine XS.goto X234.here hx rfl (pc0 := 57) (pc' := 2) rfl (hb hby d3_57) (by decide) (by decide) ?_
              show Steps p.tables e below (T234.setTop (mkF m 2 #[.val (.ref u0), .val (.int (4 : Int32)), .val (.long c3), .second, .val (.int (-1 : Int32))] [])) _
              refine XS.iloadN X234.here hx rfl (hb hby d3_2) rfl ?_
              show Steps p.tables e below (T234.setTop (mkF m 3 #[.val (.ref u0), .val (.int (4 : Int32)), .val (.long c3), .second, .val (.int (-1 : Int32))] [(.int (4 : Int32))])) _
              refine XS.aloadN X234.here hx rfl (hb hby d3_3) rfl rfl ?_
              show Steps p.tables e below (T234.setTop (mkF m 4 #[.val (.ref u0), .val (.int (4 : Int32)), .val (.long c3), .second, .val (.int (-1 : Int32))] [(.ref u0), (.int (4 : Int32))])) _
              refine X234.arraylength hx (by rw [e234]; exact Ar235.1) (State.isArrayOf_alike hZ.alike Ar235.2.1) (g := (mkF m 4 #[.val (.ref u0), .val (.int (4 : Int32)), .val (.long c3), .second, .val (.int (-1 : Int32))] [(.ref u0), (.int (4 : Int32))])) rfl rfl (hb hby d3_4) _ ?_
              rw [len_of S235 M235]
              show Steps p.tables e below (T234.setTop (mkF m 5 #[.val (.ref u0), .val (.int (4 : Int32)), .val (.long c3), .second, .val (.int (-1 : Int32))] [(.int (4 : Int32)), (.int (4 : Int32))])) _
              refine XS.icmpYes X234.here hx rfl (pc0 := 5) (pc' := 60) rfl (hb hby d3_5) rfl (flt (by decide : ¬ ((4 : Int32) < (4 : Int32)))).2.1 (by decide) (by decide) ?_
              show Steps p.tables e below (T234.setTop (mkF m 60 #[.val (.ref u0), .val (.int (4 : Int32)), .val (.long c3), .second, .val (.int (-1 : Int32))] [])) _
              exact X234.returnOut hx Bd.returns (hb hby d3_60) hr
            · show Q3n4 Z u0 kA dv c0 c1 c2 c3 h0 n0 _ T234.heap _
              rw [e234]
              have k0 := mt Int64.lt_iff_toInt_lt.mpr hc28_5
              have k1 := mt Int64.lt_iff_toInt_lt.mpr hc28_133
              have k2 := Int64.lt_iff_toInt_lt.mp hc28_217
              have k3 := Int64.lt_iff_toInt_lt.mp hc28_223
              have k4 := Int64.lt_iff_toInt_lt.mp hc28_229
              have r0 : (own_X (own_X c0 c1) (own_X c2 c3)) = c3 := by
                apply Int64.toInt_inj.mp
                simp only [own_xi, own_ni]
                omega
              have r1 : (own_X (own_X (own_N c0 c1) (own_N c2 c3)) (own_N (own_X c0 c1) (own_X c2 c3))) = c0 := by
                apply Int64.toInt_inj.mp
                simp only [own_xi, own_ni]
                omega
              have r2 : (own_N (own_X (own_N c0 c1) (own_N c2 c3)) (own_N (own_X c0 c1) (own_X c2 c3))) = c1 := by
                apply Int64.toInt_inj.mp
                simp only [own_xi, own_ni]
                omega
              have r3 : (own_N (own_N c0 c1) (own_N c2 c3)) = c2 := by
                apply Int64.toInt_inj.mp
                simp only [own_xi, own_ni]
                omega
              refine ⟨rfl, N234, Kp234, ?_⟩
              rw [r0, r1, r2, r3]
              exact V234
          · have K : ∀ target, Steps p.tables e below (T226.setTop (mkF m 47 #[.val (.ref u0), .val (.int (3 : Int32)), .val (.long c3), .second, .val (.int (0 : Int32))] [])) target → Steps p.tables e below (T226.setTop (mkF m 28 #[.val (.ref u0), .val (.int (3 : Int32)), .val (.long c3), .second, .val (.int (0 : Int32))] [(.int (lcmpW c0 c3))])) target := by
              intro target kt
              refine XS.ifYes X226.here hx rfl (pc0 := 28) (pc' := 47) rfl (hb hby d3_28) rfl ((if0 _ _).trans (flt (fun q => hc28_229 ((lw_lt c0 c3).mp q))).2.1) (by decide) (by decide) ?_
              exact kt
            refine Done.of ?_ K
            obtain ⟨cl236, Ar236, qq236, S236, M236, H236, G236⟩ := id V226
            have hin236 : ¬ ((1 : Int32) < 0 ∨ cl236.slots.size ≤ ((1 : Int32)).toNatClampNeg) := inb_of S236 ⟨by decide, by decide⟩
            obtain ⟨T237, h237, X237, e237, W237, st237⟩ := stJ X226 hx hZ e226 Ar236 (j := (1 : Int32)) hin236 (g := (mkF m 53 #[.val (.ref u0), .val (.int (3 : Int32)), .val (.long c3), .second, .val (.int (0 : Int32))] [(.long c3), (.int (1 : Int32)), (.ref u0)])) rfl rfl (hb hby d3_53)
            have V237 : Arv Z h237 u0 kA .long (4 : Int32) [(.long c0), (.long c3), (.long c1), (.long c2)] _ := Arv.set Ar236 qq236 S236 M236 H236 G236 rfl W237 1 rfl (Nat.le_of_ble_eq_true rfl)
            have N237 := Fr.snoc X237 N226 g0
            have Z237 : n0 ≤ h237.size := Nat.le_trans Z226 (Nat.le_of_eq W237.size.symm)
            have Kp237 := Kp226.wr W237 (Or.inl (List.mem_of_getElem? (i := 0) rfl))
            obtain ⟨cl238, Ar238, qq238, S238, M238, H238, G238⟩ := id V237
            obtain ⟨fs, hr, hrun, hended, hW, hsame⟩ := X237.leave (v := none) (fun _ => rfl)
            refine ⟨_, _, ?_, hrun, hended, _, _, rfl, ?_, ⟨_, rfl⟩, hW, hsame.mono (by decide) (by decide)⟩
            · show Steps p.tables e below (T226.setTop (mkF m 47 #[.val (.ref u0), .val (.int (3 : Int32)), .val (.long c3), .second, .val (.int (0 : Int32))] [])) _
              refine XS.aloadN X226.here hx rfl (hb hby d3_47) rfl rfl ?_
              show Steps p.tables e below (T226.setTop (mkF m 48 #[.val (.ref u0), .val (.int (3 : Int32)), .val (.long c3), .second, .val (.int (0 : Int32))] [(.ref u0)])) _
              refine XS.iload X226.here hx rfl (hb hby d3_48) rfl ?_
              show Steps p.tables e below (T226.setTop (mkF m 50 #[.val (.ref u0), .val (.int (3 : Int32)), .val (.long c3), .second, .val (.int (0 : Int32))] [(.int (0 : Int32)), (.ref u0)])) _
              refine XS.iconst X226.here hx rfl (hb hby d3_50) ?_
              show Steps p.tables e below (T226.setTop (mkF m 51 #[.val (.ref u0), .val (.int (3 : Int32)), .val (.long c3), .second, .val (.int (0 : Int32))] [(.int (1 : Int32)), (.int (0 : Int32)), (.ref u0)])) _
              refine XS.iadd X226.here hx rfl (hb hby d3_51) rfl ?_
              rw [show ((0 : Int32) + (1 : Int32)) = (1 : Int32) from by decide]
              show Steps p.tables e below (T226.setTop (mkF m 52 #[.val (.ref u0), .val (.int (3 : Int32)), .val (.long c3), .second, .val (.int (0 : Int32))] [(.int (1 : Int32)), (.ref u0)])) _
              refine XS.lloadN X226.here hx rfl (hb hby d3_52) rfl ?_
              show Steps p.tables e below (T226.setTop (mkF m 53 #[.val (.ref u0), .val (.int (3 : Int32)), .val (.long c3), .second, .val (.int (0 : Int32))] [(.long c3), (.int (1 : Int32)), (.ref u0)])) _
              refine st237 _ ?_
              show Steps p.tables e below (T237.setTop (mkF m 54 #[.val (.ref u0), .val (.int (3 : Int32)), .val (.long c3), .second, .val (.int (0 : Int32))] [])) _
              refine XS.iinc X237.here hx rfl (hb hby d3_54) rfl (l' := #[.val (.ref u0), .val (.int ((3 : Int32) + (1 : Int32))), .val (.long c3), .second, .val (.int (0 : Int32))]) rfl ?_
              rw [show ((3 : Int32) + (1 : Int32)) = (4 : Int32) from by decide]
              show Steps p.tables e below (T237.setTop (mkF m 57 #[.val (.ref u0), .val (.int (4 : Int32)), .val (.long c3), .second, .val (.int (0 : Int32))] [])) _
              refine XS.goto X237.here hx rfl (pc0 := 57) (pc' := 2) rfl (hb hby d3_57) (by decide) (by decide) ?_
              show Steps p.tables e below (T237.setTop (mkF m 2 #[.val (.ref u0), .val (.int (4 : Int32)), .val (.long c3), .second, .val (.int (0 : Int32))] [])) _
              refine XS.iloadN X237.here hx rfl (hb hby d3_2) rfl ?_
              show Steps p.tables e below (T237.setTop (mkF m 3 #[.val (.ref u0), .val (.int (4 : Int32)), .val (.long c3), .second, .val (.int (0 : Int32))] [(.int (4 : Int32))])) _
              refine XS.aloadN X237.here hx rfl (hb hby d3_3) rfl rfl ?_
              show Steps p.tables e below (T237.setTop (mkF m 4 #[.val (.ref u0), .val (.int (4 : Int32)), .val (.long c3), .second, .val (.int (0 : Int32))] [(.ref u0), (.int (4 : Int32))])) _
              refine X237.arraylength hx (by rw [e237]; exact Ar238.1) (State.isArrayOf_alike hZ.alike Ar238.2.1) (g := (mkF m 4 #[.val (.ref u0), .val (.int (4 : Int32)), .val (.long c3), .second, .val (.int (0 : Int32))] [(.ref u0), (.int (4 : Int32))])) rfl rfl (hb hby d3_4) _ ?_
              rw [len_of S238 M238]
              show Steps p.tables e below (T237.setTop (mkF m 5 #[.val (.ref u0), .val (.int (4 : Int32)), .val (.long c3), .second, .val (.int (0 : Int32))] [(.int (4 : Int32)), (.int (4 : Int32))])) _
              refine XS.icmpYes X237.here hx rfl (pc0 := 5) (pc' := 60) rfl (hb hby d3_5) rfl (flt (by decide : ¬ ((4 : Int32) < (4 : Int32)))).2.1 (by decide) (by decide) ?_
              show Steps p.tables e below (T237.setTop (mkF m 60 #[.val (.ref u0), .val (.int (4 : Int32)), .val (.long c3), .second, .val (.int (0 : Int32))] [])) _
              exact X237.returnOut hx Bd.returns (hb hby d3_60) hr
            · show Q3n4 Z u0 kA dv c0 c1 c2 c3 h0 n0 _ T237.heap _
              rw [e237]
              have k0 := mt Int64.lt_iff_toInt_lt.mpr hc28_5
              have k1 := mt Int64.lt_iff_toInt_lt.mpr hc28_133
              have k2 := Int64.lt_iff_toInt_lt.mp hc28_217
              have k3 := Int64.lt_iff_toInt_lt.mp hc28_223
              have k4 := mt Int64.lt_iff_toInt_lt.mpr hc28_229
              have r0 : (own_X (own_X c0 c1) (own_X c2 c3)) = c0 := by
                apply Int64.toInt_inj.mp
                simp only [own_xi, own_ni]
                omega
              have r1 : (own_X (own_X (own_N c0 c1) (own_N c2 c3)) (own_N (own_X c0 c1) (own_X c2 c3))) = c3 := by
                apply Int64.toInt_inj.mp
                simp only [own_xi, own_ni]
                omega
              have r2 : (own_N (own_X (own_N c0 c1) (own_N c2 c3)) (own_N (own_X c0 c1) (own_X c2 c3))) = c1 := by
                apply Int64.toInt_inj.mp
                simp only [own_xi, own_ni]
                omega
              have r3 : (own_N (own_N c0 c1) (own_N c2 c3)) = c2 := by
                apply Int64.toInt_inj.mp
                simp only [own_xi, own_ni]
                omega
              refine ⟨rfl, N237, Kp237, ?_⟩
              rw [r0, r1, r2, r3]
              exact V237
        · have K : ∀ target, Steps p.tables e below (T220.setTop (mkF m 47 #[.val (.ref u0), .val (.int (3 : Int32)), .val (.long c3), .second, .val (.int (1 : Int32))] [])) target → Steps p.tables e below (T220.setTop (mkF m 28 #[.val (.ref u0), .val (.int (3 : Int32)), .val (.long c3), .second, .val (.int (1 : Int32))] [(.int (lcmpW c1 c3))])) target := by
            intro target kt
            refine XS.ifYes X220.here hx rfl (pc0 := 28) (pc' := 47) rfl (hb hby d3_28) rfl ((if0 _ _).trans (flt (fun q => hc28_223 ((lw_lt c1 c3).mp q))).2.1) (by decide) (by decide) ?_
            exact kt
          refine Done.of ?_ K
          obtain ⟨cl239, Ar239, qq239, S239, M239, H239, G239⟩ := id V220
          have hin239 : ¬ ((2 : Int32) < 0 ∨ cl239.slots.size ≤ ((2 : Int32)).toNatClampNeg) := inb_of S239 ⟨by decide, by decide⟩
          obtain ⟨T240, h240, X240, e240, W240, st240⟩ := stJ X220 hx hZ e220 Ar239 (j := (2 : Int32)) hin239 (g := (mkF m 53 #[.val (.ref u0), .val (.int (3 : Int32)), .val (.long c3), .second, .val (.int (1 : Int32))] [(.long c3), (.int (2 : Int32)), (.ref u0)])) rfl rfl (hb hby d3_53)
          have V240 : Arv Z h240 u0 kA .long (4 : Int32) [(.long c0), (.long c1), (.long c3), (.long c2)] _ := Arv.set Ar239 qq239 S239 M239 H239 G239 rfl W240 2 rfl (Nat.le_of_ble_eq_true rfl)
          have N240 := Fr.snoc X240 N220 g0
          have Z240 : n0 ≤ h240.size := Nat.le_trans Z220 (Nat.le_of_eq W240.size.symm)
          have Kp240 := Kp220.wr W240 (Or.inl (List.mem_of_getElem? (i := 0) rfl))
          obtain ⟨cl241, Ar241, qq241, S241, M241, H241, G241⟩ := id V240
          obtain ⟨fs, hr, hrun, hended, hW, hsame⟩ := X240.leave (v := none) (fun _ => rfl)
          refine ⟨_, _, ?_, hrun, hended, _, _, rfl, ?_, ⟨_, rfl⟩, hW, hsame.mono (by decide) (by decide)⟩
          · show Steps p.tables e below (T220.setTop (mkF m 47 #[.val (.ref u0), .val (.int (3 : Int32)), .val (.long c3), .second, .val (.int (1 : Int32))] [])) _
            refine XS.aloadN X220.here hx rfl (hb hby d3_47) rfl rfl ?_
            show Steps p.tables e below (T220.setTop (mkF m 48 #[.val (.ref u0), .val (.int (3 : Int32)), .val (.long c3), .second, .val (.int (1 : Int32))] [(.ref u0)])) _
            refine XS.iload X220.here hx rfl (hb hby d3_48) rfl ?_
            show Steps p.tables e below (T220.setTop (mkF m 50 #[.val (.ref u0), .val (.int (3 : Int32)), .val (.long c3), .second, .val (.int (1 : Int32))] [(.int (1 : Int32)), (.ref u0)])) _
            refine XS.iconst X220.here hx rfl (hb hby d3_50) ?_
            show Steps p.tables e below (T220.setTop (mkF m 51 #[.val (.ref u0), .val (.int (3 : Int32)), .val (.long c3), .second, .val (.int (1 : Int32))] [(.int (1 : Int32)), (.int (1 : Int32)), (.ref u0)])) _
            refine XS.iadd X220.here hx rfl (hb hby d3_51) rfl ?_
            rw [show ((1 : Int32) + (1 : Int32)) = (2 : Int32) from by decide]
            show Steps p.tables e below (T220.setTop (mkF m 52 #[.val (.ref u0), .val (.int (3 : Int32)), .val (.long c3), .second, .val (.int (1 : Int32))] [(.int (2 : Int32)), (.ref u0)])) _
            refine XS.lloadN X220.here hx rfl (hb hby d3_52) rfl ?_
            show Steps p.tables e below (T220.setTop (mkF m 53 #[.val (.ref u0), .val (.int (3 : Int32)), .val (.long c3), .second, .val (.int (1 : Int32))] [(.long c3), (.int (2 : Int32)), (.ref u0)])) _
            refine st240 _ ?_
            show Steps p.tables e below (T240.setTop (mkF m 54 #[.val (.ref u0), .val (.int (3 : Int32)), .val (.long c3), .second, .val (.int (1 : Int32))] [])) _
            refine XS.iinc X240.here hx rfl (hb hby d3_54) rfl (l' := #[.val (.ref u0), .val (.int ((3 : Int32) + (1 : Int32))), .val (.long c3), .second, .val (.int (1 : Int32))]) rfl ?_
            rw [show ((3 : Int32) + (1 : Int32)) = (4 : Int32) from by decide]
            show Steps p.tables e below (T240.setTop (mkF m 57 #[.val (.ref u0), .val (.int (4 : Int32)), .val (.long c3), .second, .val (.int (1 : Int32))] [])) _
            refine XS.goto X240.here hx rfl (pc0 := 57) (pc' := 2) rfl (hb hby d3_57) (by decide) (by decide) ?_
            show Steps p.tables e below (T240.setTop (mkF m 2 #[.val (.ref u0), .val (.int (4 : Int32)), .val (.long c3), .second, .val (.int (1 : Int32))] [])) _
            refine XS.iloadN X240.here hx rfl (hb hby d3_2) rfl ?_
            show Steps p.tables e below (T240.setTop (mkF m 3 #[.val (.ref u0), .val (.int (4 : Int32)), .val (.long c3), .second, .val (.int (1 : Int32))] [(.int (4 : Int32))])) _
            refine XS.aloadN X240.here hx rfl (hb hby d3_3) rfl rfl ?_
            show Steps p.tables e below (T240.setTop (mkF m 4 #[.val (.ref u0), .val (.int (4 : Int32)), .val (.long c3), .second, .val (.int (1 : Int32))] [(.ref u0), (.int (4 : Int32))])) _
            refine X240.arraylength hx (by rw [e240]; exact Ar241.1) (State.isArrayOf_alike hZ.alike Ar241.2.1) (g := (mkF m 4 #[.val (.ref u0), .val (.int (4 : Int32)), .val (.long c3), .second, .val (.int (1 : Int32))] [(.ref u0), (.int (4 : Int32))])) rfl rfl (hb hby d3_4) _ ?_
            rw [len_of S241 M241]
            show Steps p.tables e below (T240.setTop (mkF m 5 #[.val (.ref u0), .val (.int (4 : Int32)), .val (.long c3), .second, .val (.int (1 : Int32))] [(.int (4 : Int32)), (.int (4 : Int32))])) _
            refine XS.icmpYes X240.here hx rfl (pc0 := 5) (pc' := 60) rfl (hb hby d3_5) rfl (flt (by decide : ¬ ((4 : Int32) < (4 : Int32)))).2.1 (by decide) (by decide) ?_
            show Steps p.tables e below (T240.setTop (mkF m 60 #[.val (.ref u0), .val (.int (4 : Int32)), .val (.long c3), .second, .val (.int (1 : Int32))] [])) _
            exact X240.returnOut hx Bd.returns (hb hby d3_60) hr
          · show Q3n4 Z u0 kA dv c0 c1 c2 c3 h0 n0 _ T240.heap _
            rw [e240]
            have k0 := mt Int64.lt_iff_toInt_lt.mpr hc28_5
            have k1 := mt Int64.lt_iff_toInt_lt.mpr hc28_133
            have k2 := Int64.lt_iff_toInt_lt.mp hc28_217
            have k3 := mt Int64.lt_iff_toInt_lt.mpr hc28_223
            have r0 : (own_X (own_X c0 c1) (own_X c2 c3)) = c0 := by
              apply Int64.toInt_inj.mp
              simp only [own_xi, own_ni]
              omega
            have r1 : (own_X (own_X (own_N c0 c1) (own_N c2 c3)) (own_N (own_X c0 c1) (own_X c2 c3))) = c1 := by
              apply Int64.toInt_inj.mp
              simp only [own_xi, own_ni]
              omega
            have r2 : (own_N (own_X (own_N c0 c1) (own_N c2 c3)) (own_N (own_X c0 c1) (own_X c2 c3))) = c3 := by
              apply Int64.toInt_inj.mp
              simp only [own_xi, own_ni]
              omega
            have r3 : (own_N (own_N c0 c1) (own_N c2 c3)) = c2 := by
              apply Int64.toInt_inj.mp
              simp only [own_xi, own_ni]
              omega
            refine ⟨rfl, N240, Kp240, ?_⟩
            rw [r0, r1, r2, r3]
            exact V240
      · have K : ∀ target, Steps p.tables e below (T212.setTop (mkF m 47 #[.val (.ref u0), .val (.int (3 : Int32)), .val (.long c3), .second, .val (.int (2 : Int32))] [])) target → Steps p.tables e below (T212.setTop (mkF m 28 #[.val (.ref u0), .val (.int (3 : Int32)), .val (.long c3), .second, .val (.int (2 : Int32))] [(.int (lcmpW c2 c3))])) target := by
          intro target kt
          refine XS.ifYes X212.here hx rfl (pc0 := 28) (pc' := 47) rfl (hb hby d3_28) rfl ((if0 _ _).trans (flt (fun q => hc28_217 ((lw_lt c2 c3).mp q))).2.1) (by decide) (by decide) ?_
          exact kt
        refine Done.of ?_ K
        obtain ⟨cl242, Ar242, qq242, S242, M242, H242, G242⟩ := id V212
        have hin242 : ¬ ((3 : Int32) < 0 ∨ cl242.slots.size ≤ ((3 : Int32)).toNatClampNeg) := inb_of S242 ⟨by decide, by decide⟩
        obtain ⟨T243, h243, X243, e243, W243, st243⟩ := stJ X212 hx hZ e212 Ar242 (j := (3 : Int32)) hin242 (g := (mkF m 53 #[.val (.ref u0), .val (.int (3 : Int32)), .val (.long c3), .second, .val (.int (2 : Int32))] [(.long c3), (.int (3 : Int32)), (.ref u0)])) rfl rfl (hb hby d3_53)
        have V243 : Arv Z h243 u0 kA .long (4 : Int32) [(.long c0), (.long c1), (.long c2), (.long c3)] _ := Arv.set Ar242 qq242 S242 M242 H242 G242 rfl W243 3 rfl (Nat.le_of_ble_eq_true rfl)
        have N243 := Fr.snoc X243 N212 g0
        have Z243 : n0 ≤ h243.size := Nat.le_trans Z212 (Nat.le_of_eq W243.size.symm)
        have Kp243 := Kp212.wr W243 (Or.inl (List.mem_of_getElem? (i := 0) rfl))
        obtain ⟨cl244, Ar244, qq244, S244, M244, H244, G244⟩ := id V243
        obtain ⟨fs, hr, hrun, hended, hW, hsame⟩ := X243.leave (v := none) (fun _ => rfl)
        refine ⟨_, _, ?_, hrun, hended, _, _, rfl, ?_, ⟨_, rfl⟩, hW, hsame.mono (by decide) (by decide)⟩
        · show Steps p.tables e below (T212.setTop (mkF m 47 #[.val (.ref u0), .val (.int (3 : Int32)), .val (.long c3), .second, .val (.int (2 : Int32))] [])) _
          refine XS.aloadN X212.here hx rfl (hb hby d3_47) rfl rfl ?_
          show Steps p.tables e below (T212.setTop (mkF m 48 #[.val (.ref u0), .val (.int (3 : Int32)), .val (.long c3), .second, .val (.int (2 : Int32))] [(.ref u0)])) _
          refine XS.iload X212.here hx rfl (hb hby d3_48) rfl ?_
          show Steps p.tables e below (T212.setTop (mkF m 50 #[.val (.ref u0), .val (.int (3 : Int32)), .val (.long c3), .second, .val (.int (2 : Int32))] [(.int (2 : Int32)), (.ref u0)])) _
          refine XS.iconst X212.here hx rfl (hb hby d3_50) ?_
          show Steps p.tables e below (T212.setTop (mkF m 51 #[.val (.ref u0), .val (.int (3 : Int32)), .val (.long c3), .second, .val (.int (2 : Int32))] [(.int (1 : Int32)), (.int (2 : Int32)), (.ref u0)])) _
          refine XS.iadd X212.here hx rfl (hb hby d3_51) rfl ?_
          rw [show ((2 : Int32) + (1 : Int32)) = (3 : Int32) from by decide]
          show Steps p.tables e below (T212.setTop (mkF m 52 #[.val (.ref u0), .val (.int (3 : Int32)), .val (.long c3), .second, .val (.int (2 : Int32))] [(.int (3 : Int32)), (.ref u0)])) _
          refine XS.lloadN X212.here hx rfl (hb hby d3_52) rfl ?_
          show Steps p.tables e below (T212.setTop (mkF m 53 #[.val (.ref u0), .val (.int (3 : Int32)), .val (.long c3), .second, .val (.int (2 : Int32))] [(.long c3), (.int (3 : Int32)), (.ref u0)])) _
          refine st243 _ ?_
          show Steps p.tables e below (T243.setTop (mkF m 54 #[.val (.ref u0), .val (.int (3 : Int32)), .val (.long c3), .second, .val (.int (2 : Int32))] [])) _
          refine XS.iinc X243.here hx rfl (hb hby d3_54) rfl (l' := #[.val (.ref u0), .val (.int ((3 : Int32) + (1 : Int32))), .val (.long c3), .second, .val (.int (2 : Int32))]) rfl ?_
          rw [show ((3 : Int32) + (1 : Int32)) = (4 : Int32) from by decide]
          show Steps p.tables e below (T243.setTop (mkF m 57 #[.val (.ref u0), .val (.int (4 : Int32)), .val (.long c3), .second, .val (.int (2 : Int32))] [])) _
          refine XS.goto X243.here hx rfl (pc0 := 57) (pc' := 2) rfl (hb hby d3_57) (by decide) (by decide) ?_
          show Steps p.tables e below (T243.setTop (mkF m 2 #[.val (.ref u0), .val (.int (4 : Int32)), .val (.long c3), .second, .val (.int (2 : Int32))] [])) _
          refine XS.iloadN X243.here hx rfl (hb hby d3_2) rfl ?_
          show Steps p.tables e below (T243.setTop (mkF m 3 #[.val (.ref u0), .val (.int (4 : Int32)), .val (.long c3), .second, .val (.int (2 : Int32))] [(.int (4 : Int32))])) _
          refine XS.aloadN X243.here hx rfl (hb hby d3_3) rfl rfl ?_
          show Steps p.tables e below (T243.setTop (mkF m 4 #[.val (.ref u0), .val (.int (4 : Int32)), .val (.long c3), .second, .val (.int (2 : Int32))] [(.ref u0), (.int (4 : Int32))])) _
          refine X243.arraylength hx (by rw [e243]; exact Ar244.1) (State.isArrayOf_alike hZ.alike Ar244.2.1) (g := (mkF m 4 #[.val (.ref u0), .val (.int (4 : Int32)), .val (.long c3), .second, .val (.int (2 : Int32))] [(.ref u0), (.int (4 : Int32))])) rfl rfl (hb hby d3_4) _ ?_
          rw [len_of S244 M244]
          show Steps p.tables e below (T243.setTop (mkF m 5 #[.val (.ref u0), .val (.int (4 : Int32)), .val (.long c3), .second, .val (.int (2 : Int32))] [(.int (4 : Int32)), (.int (4 : Int32))])) _
          refine XS.icmpYes X243.here hx rfl (pc0 := 5) (pc' := 60) rfl (hb hby d3_5) rfl (flt (by decide : ¬ ((4 : Int32) < (4 : Int32)))).2.1 (by decide) (by decide) ?_
          show Steps p.tables e below (T243.setTop (mkF m 60 #[.val (.ref u0), .val (.int (4 : Int32)), .val (.long c3), .second, .val (.int (2 : Int32))] [])) _
          exact X243.returnOut hx Bd.returns (hb hby d3_60) hr
        · show Q3n4 Z u0 kA dv c0 c1 c2 c3 h0 n0 _ T243.heap _
          rw [e243]
          have k0 := mt Int64.lt_iff_toInt_lt.mpr hc28_5
          have k1 := mt Int64.lt_iff_toInt_lt.mpr hc28_133
          have k2 := mt Int64.lt_iff_toInt_lt.mpr hc28_217
          have r0 : (own_X (own_X c0 c1) (own_X c2 c3)) = c0 := by
            apply Int64.toInt_inj.mp
            simp only [own_xi, own_ni]
            omega
          have r1 : (own_X (own_X (own_N c0 c1) (own_N c2 c3)) (own_N (own_X c0 c1) (own_X c2 c3))) = c1 := by
            apply Int64.toInt_inj.mp
            simp only [own_xi, own_ni]
            omega
          have r2 : (own_N (own_X (own_N c0 c1) (own_N c2 c3)) (own_N (own_X c0 c1) (own_X c2 c3))) = c2 := by
            apply Int64.toInt_inj.mp
            simp only [own_xi, own_ni]
            omega
          have r3 : (own_N (own_N c0 c1) (own_N c2 c3)) = c3 := by
            apply Int64.toInt_inj.mp
            simp only [own_xi, own_ni]
            omega
          refine ⟨rfl, N243, Kp243, ?_⟩
          rw [r0, r1, r2, r3]
          exact V243
theorem pn_0 : plainName "com/example/firepick/firepick/TimeTagsRankPinLaw" = true := by first | (simp [plainName, overriddenIn]; done) | decide +kernel
theorem pd_0 : parseMethodDescriptor "(JJ)J" = some ⟨[.long, .long], some .long⟩ := by decide +kernel
theorem pd_1 : parseMethodDescriptor "([J)V" = some ⟨[(.array .long)], none⟩ := by decide +kernel
theorem ef_0 (m : MethodId) (q0 : Int64) (q1 : Int64) (q2 : Int64) (q3 : Int64) (p4 : Int32)  : entryFrame m #[(.long q0), (.long q1), (.long q2), (.long q3), (.int p4)] maxLocals = mkF m 0 #[.val (.long q0), .second, .val (.long q1), .second, .val (.long q2), .second, .val (.long q3), .second, .val (.int p4), .unset, .unset, .unset, .unset, .unset, .unset, .unset, .unset, .unset, .unset, .unset, .unset, .unset, .unset, .unset, .unset, .unset, .unset, .unset, .unset, .unset, .unset, .unset, .unset, .unset, .unset, .unset, .unset, .unset, .unset, .unset, .unset, .unset] [] := by first | (simp [entryFrame, mkF, argsToLocals, Value.category, maxLocals]; done) | rfl
def Q0 (Z : State) (q0 : Int64) (q1 : Int64) (q2 : Int64) (q3 : Int64) (p4 : Int32) (h0 : Heap) (n0 : Nat) (v : Option Value) (h : Heap) (L : List Loc) : Prop := v = some (.int 1) ∧ Fr n0 L
set_option maxRecDepth 65536 in
set_option maxHeartbeats 40000000 in
theorem rm0 (l : Launch) (Z : State) (a0 : Array Value) (hw : ∀ d ∈ tables_1, d.before a0 Z = true) (ws : List Jvm.Cond) (q0 : Int64) (q1 : Int64) (q2 : Int64) (q3 : Int64) (p4 : Int32) (h0 : Heap) (n0 : Nat) (Z0 : n0 ≤ h0.size) :
    MetFree l x (head1 (Jvm.Cond.code x code maxLocals ret :: ws) room_1) (fun a U => a = #[(.long q0), (.long q1), (.long q2), (.long q3), (.int p4)] ∧ Z.Warmed39 U.vm ∧ U.heap = h0) (fun _ _ _ _ _ => True) (fun _ U o U' => ∃ v L, o = .returned v ∧ Q0 Z q0 q1 q2 q3 p4 h0 n0 v U'.heap L ∧ FrameEnd U o U' L room_1.cells room_1.slots) := by
  refine MetFree.of_bodySF (plainFor_of_name pn_0) hisR ?_
  intro p e s m args below meth c s₁ Bd hml0 hP hK
  obtain ⟨rfl, hZ, hh⟩ := hP
  have hx := Bd.exec
  have hby := Bd.bytes
  have hml : c.maxLocals = 42 := hml0
  have hown : s.vm.findClass "com/example/firepick/firepick/TimeTagsRankPinLaw" = some m.cls := findClass_of_methodNamed Bd.named
  have hnm := (name_of_methodNamed Bd.named Bd.method).1
  have X0 : Stand p l e room_1 s m #[(.long q0), (.long q1), (.long q2), (.long q3), (.int p4)] below meth c s₁ [] 0 0 := Stand.of_body Bd
  have e0 : s₁.heap = h0 := by rw [← hh, Bd.state]; rfl
  have N0 := Fr.nil n0
  have pre0 : ∀ t, Steps p.tables e below (s₁.setTop (mkF m 0 #[.val (.long q0), .second, .val (.long q1), .second, .val (.long q2), .second, .val (.long q3), .second, .val (.int p4), .unset, .unset, .unset, .unset, .unset, .unset, .unset, .unset, .unset, .unset, .unset, .unset, .unset, .unset, .unset, .unset, .unset, .unset, .unset, .unset, .unset, .unset, .unset, .unset, .unset, .unset, .unset, .unset, .unset, .unset, .unset, .unset, .unset] [])) t → Steps p.tables e below (s₁.setTop (entryFrame m #[(.long q0), (.long q1), (.long q2), (.long q3), (.int p4)] maxLocals)) t := fun t k => castTop (ef_0 m q0 q1 q2 q3 p4) k
  show Done p e below _ _
  refine Done.of ?_ pre0
  have hnz6_1 : (5 : Int32) ≠ (0 : Int32) := by decide
  obtain ⟨v2, ev2⟩ : ∃ z : Int32, z = ((p4 &&& (2147483647 : Int32)) % (5 : Int32)) := ⟨_, rfl⟩
  have J20_3 : ∀ wj : Int64, wj = (if (1 : Int32) < v2 then q1 else (-9223372036854775808 : Int64)) → ∀ target, Steps p.tables e below (s₁.setTop (mkF m 29 #[.val (.long q0), .second, .val (.long q1), .second, .val (.long q2), .second, .val (.long q3), .second, .val (.int p4), .val (.int v2), .val (.long (-9223372036854775808 : Int64)), .second, .val (.long q0), .second, .unset, .unset, .unset, .unset, .unset, .unset, .unset, .unset, .unset, .unset, .unset, .unset, .unset, .unset, .unset, .unset, .unset, .unset, .unset, .unset, .unset, .unset, .unset, .unset, .unset, .unset, .unset, .unset] [(.long wj)])) target → Steps p.tables e below (s₁.setTop (mkF m 20 #[.val (.long q0), .second, .val (.long q1), .second, .val (.long q2), .second, .val (.long q3), .second, .val (.int p4), .val (.int v2), .val (.long (-9223372036854775808 : Int64)), .second, .val (.long q0), .second, .unset, .unset, .unset, .unset, .unset, .unset, .unset, .unset, .unset, .unset, .unset, .unset, .unset, .unset, .unset, .unset, .unset, .unset, .unset, .unset, .unset, .unset, .unset, .unset, .unset, .unset, .unset, .unset] [(.int (1 : Int32)), (.int v2)])) target := by
    intro wj hw0 target kt
    by_cases hj20 : (1 : Int32) < v2
    · rw [if_pos hj20] at hw0
      show Steps p.tables e below (s₁.setTop (mkF m 20 #[.val (.long q0), .second, .val (.long q1), .second, .val (.long q2), .second, .val (.long q3), .second, .val (.int p4), .val (.int v2), .val (.long (-9223372036854775808 : Int64)), .second, .val (.long q0), .second, .unset, .unset, .unset, .unset, .unset, .unset, .unset, .unset, .unset, .unset, .unset, .unset, .unset, .unset, .unset, .unset, .unset, .unset, .unset, .unset, .unset, .unset, .unset, .unset, .unset, .unset, .unset, .unset] [(.int (1 : Int32)), (.int v2)])) _
      refine XS.icmpNo X0.here hx rfl (hb hby at_20) rfl (tlt hj20).2.2.2 ?_
      refine XS.lloadN X0.here hx rfl (hb hby at_23) rfl ?_
      show Steps p.tables e below (s₁.setTop (mkF m 24 #[.val (.long q0), .second, .val (.long q1), .second, .val (.long q2), .second, .val (.long q3), .second, .val (.int p4), .val (.int v2), .val (.long (-9223372036854775808 : Int64)), .second, .val (.long q0), .second, .unset, .unset, .unset, .unset, .unset, .unset, .unset, .unset, .unset, .unset, .unset, .unset, .unset, .unset, .unset, .unset, .unset, .unset, .unset, .unset, .unset, .unset, .unset, .unset, .unset, .unset, .unset, .unset] [(.long q1)])) _
      refine XS.goto X0.here hx rfl (pc0 := 24) (pc' := 29) rfl (hb hby at_24) (by decide) (by decide) ?_
      rw [hw0] at kt
      exact kt
    · rw [if_neg hj20] at hw0
      show Steps p.tables e below (s₁.setTop (mkF m 20 #[.val (.long q0), .second, .val (.long q1), .second, .val (.long q2), .second, .val (.long q3), .second, .val (.int p4), .val (.int v2), .val (.long (-9223372036854775808 : Int64)), .second, .val (.long q0), .second, .unset, .unset, .unset, .unset, .unset, .unset, .unset, .unset, .unset, .unset, .unset, .unset, .unset, .unset, .unset, .unset, .unset, .unset, .unset, .unset, .unset, .unset, .unset, .unset, .unset, .unset, .unset, .unset] [(.int (1 : Int32)), (.int v2)])) _
      refine XS.icmpYes X0.here hx rfl (pc0 := 20) (pc' := 27) rfl (hb hby at_20) rfl (flt hj20).2.2.2 (by decide) (by decide) ?_
      refine XS.lload X0.here hx rfl (hb hby at_27) rfl ?_
      rw [hw0] at kt
      exact kt
  obtain ⟨v4, ev4⟩ : ∃ z : Int64, z = (if (1 : Int32) < v2 then q1 else (-9223372036854775808 : Int64)) := ⟨_, rfl⟩
  have J34_5 : ∀ wj : Int64, wj = (if (2 : Int32) < v2 then q2 else (-9223372036854775808 : Int64)) → ∀ target, Steps p.tables e below (s₁.setTop (mkF m 44 #[.val (.long q0), .second, .val (.long q1), .second, .val (.long q2), .second, .val (.long q3), .second, .val (.int p4), .val (.int v2), .val (.long (-9223372036854775808 : Int64)), .second, .val (.long q0), .second, .val (.long v4), .second, .unset, .unset, .unset, .unset, .unset, .unset, .unset, .unset, .unset, .unset, .unset, .unset, .unset, .unset, .unset, .unset, .unset, .unset, .unset, .unset, .unset, .unset, .unset, .unset, .unset, .unset] [(.long wj)])) target → Steps p.tables e below (s₁.setTop (mkF m 34 #[.val (.long q0), .second, .val (.long q1), .second, .val (.long q2), .second, .val (.long q3), .second, .val (.int p4), .val (.int v2), .val (.long (-9223372036854775808 : Int64)), .second, .val (.long q0), .second, .val (.long v4), .second, .unset, .unset, .unset, .unset, .unset, .unset, .unset, .unset, .unset, .unset, .unset, .unset, .unset, .unset, .unset, .unset, .unset, .unset, .unset, .unset, .unset, .unset, .unset, .unset, .unset, .unset] [(.int (2 : Int32)), (.int v2)])) target := by
    intro wj hw0 target kt
    by_cases hj34 : (2 : Int32) < v2
    · rw [if_pos hj34] at hw0
      show Steps p.tables e below (s₁.setTop (mkF m 34 #[.val (.long q0), .second, .val (.long q1), .second, .val (.long q2), .second, .val (.long q3), .second, .val (.int p4), .val (.int v2), .val (.long (-9223372036854775808 : Int64)), .second, .val (.long q0), .second, .val (.long v4), .second, .unset, .unset, .unset, .unset, .unset, .unset, .unset, .unset, .unset, .unset, .unset, .unset, .unset, .unset, .unset, .unset, .unset, .unset, .unset, .unset, .unset, .unset, .unset, .unset, .unset, .unset] [(.int (2 : Int32)), (.int v2)])) _
      refine XS.icmpNo X0.here hx rfl (hb hby at_34) rfl (tlt hj34).2.2.2 ?_
      refine XS.lload X0.here hx rfl (hb hby at_37) rfl ?_
      show Steps p.tables e below (s₁.setTop (mkF m 39 #[.val (.long q0), .second, .val (.long q1), .second, .val (.long q2), .second, .val (.long q3), .second, .val (.int p4), .val (.int v2), .val (.long (-9223372036854775808 : Int64)), .second, .val (.long q0), .second, .val (.long v4), .second, .unset, .unset, .unset, .unset, .unset, .unset, .unset, .unset, .unset, .unset, .unset, .unset, .unset, .unset, .unset, .unset, .unset, .unset, .unset, .unset, .unset, .unset, .unset, .unset, .unset, .unset] [(.long q2)])) _
      refine XS.goto X0.here hx rfl (pc0 := 39) (pc' := 44) rfl (hb hby at_39) (by decide) (by decide) ?_
      rw [hw0] at kt
      exact kt
    · rw [if_neg hj34] at hw0
      show Steps p.tables e below (s₁.setTop (mkF m 34 #[.val (.long q0), .second, .val (.long q1), .second, .val (.long q2), .second, .val (.long q3), .second, .val (.int p4), .val (.int v2), .val (.long (-9223372036854775808 : Int64)), .second, .val (.long q0), .second, .val (.long v4), .second, .unset, .unset, .unset, .unset, .unset, .unset, .unset, .unset, .unset, .unset, .unset, .unset, .unset, .unset, .unset, .unset, .unset, .unset, .unset, .unset, .unset, .unset, .unset, .unset, .unset, .unset] [(.int (2 : Int32)), (.int v2)])) _
      refine XS.icmpYes X0.here hx rfl (pc0 := 34) (pc' := 42) rfl (hb hby at_34) rfl (flt hj34).2.2.2 (by decide) (by decide) ?_
      refine XS.lload X0.here hx rfl (hb hby at_42) rfl ?_
      rw [hw0] at kt
      exact kt
  obtain ⟨v6, ev6⟩ : ∃ z : Int64, z = (if (2 : Int32) < v2 then q2 else (-9223372036854775808 : Int64)) := ⟨_, rfl⟩
  have J49_7 : ∀ wj : Int64, wj = (if (3 : Int32) < v2 then q3 else (-9223372036854775808 : Int64)) → ∀ target, Steps p.tables e below (s₁.setTop (mkF m 59 #[.val (.long q0), .second, .val (.long q1), .second, .val (.long q2), .second, .val (.long q3), .second, .val (.int p4), .val (.int v2), .val (.long (-9223372036854775808 : Int64)), .second, .val (.long q0), .second, .val (.long v4), .second, .val (.long v6), .second, .unset, .unset, .unset, .unset, .unset, .unset, .unset, .unset, .unset, .unset, .unset, .unset, .unset, .unset, .unset, .unset, .unset, .unset, .unset, .unset, .unset, .unset, .unset, .unset] [(.long wj)])) target → Steps p.tables e below (s₁.setTop (mkF m 49 #[.val (.long q0), .second, .val (.long q1), .second, .val (.long q2), .second, .val (.long q3), .second, .val (.int p4), .val (.int v2), .val (.long (-9223372036854775808 : Int64)), .second, .val (.long q0), .second, .val (.long v4), .second, .val (.long v6), .second, .unset, .unset, .unset, .unset, .unset, .unset, .unset, .unset, .unset, .unset, .unset, .unset, .unset, .unset, .unset, .unset, .unset, .unset, .unset, .unset, .unset, .unset, .unset, .unset] [(.int (3 : Int32)), (.int v2)])) target := by
    intro wj hw0 target kt
    by_cases hj49 : (3 : Int32) < v2
    · rw [if_pos hj49] at hw0
      show Steps p.tables e below (s₁.setTop (mkF m 49 #[.val (.long q0), .second, .val (.long q1), .second, .val (.long q2), .second, .val (.long q3), .second, .val (.int p4), .val (.int v2), .val (.long (-9223372036854775808 : Int64)), .second, .val (.long q0), .second, .val (.long v4), .second, .val (.long v6), .second, .unset, .unset, .unset, .unset, .unset, .unset, .unset, .unset, .unset, .unset, .unset, .unset, .unset, .unset, .unset, .unset, .unset, .unset, .unset, .unset, .unset, .unset, .unset, .unset] [(.int (3 : Int32)), (.int v2)])) _
      refine XS.icmpNo X0.here hx rfl (hb hby at_49) rfl (tlt hj49).2.2.2 ?_
      refine XS.lload X0.here hx rfl (hb hby at_52) rfl ?_
      show Steps p.tables e below (s₁.setTop (mkF m 54 #[.val (.long q0), .second, .val (.long q1), .second, .val (.long q2), .second, .val (.long q3), .second, .val (.int p4), .val (.int v2), .val (.long (-9223372036854775808 : Int64)), .second, .val (.long q0), .second, .val (.long v4), .second, .val (.long v6), .second, .unset, .unset, .unset, .unset, .unset, .unset, .unset, .unset, .unset, .unset, .unset, .unset, .unset, .unset, .unset, .unset, .unset, .unset, .unset, .unset, .unset, .unset, .unset, .unset] [(.long q3)])) _
      refine XS.goto X0.here hx rfl (pc0 := 54) (pc' := 59) rfl (hb hby at_54) (by decide) (by decide) ?_
      rw [hw0] at kt
      exact kt
    · rw [if_neg hj49] at hw0
      show Steps p.tables e below (s₁.setTop (mkF m 49 #[.val (.long q0), .second, .val (.long q1), .second, .val (.long q2), .second, .val (.long q3), .second, .val (.int p4), .val (.int v2), .val (.long (-9223372036854775808 : Int64)), .second, .val (.long q0), .second, .val (.long v4), .second, .val (.long v6), .second, .unset, .unset, .unset, .unset, .unset, .unset, .unset, .unset, .unset, .unset, .unset, .unset, .unset, .unset, .unset, .unset, .unset, .unset, .unset, .unset, .unset, .unset, .unset, .unset] [(.int (3 : Int32)), (.int v2)])) _
      refine XS.icmpYes X0.here hx rfl (pc0 := 49) (pc' := 57) rfl (hb hby at_49) rfl (flt hj49).2.2.2 (by decide) (by decide) ?_
      show Steps p.tables e below (s₁.setTop (mkF m 57 #[.val (.long q0), .second, .val (.long q1), .second, .val (.long q2), .second, .val (.long q3), .second, .val (.int p4), .val (.int v2), .val (.long (-9223372036854775808 : Int64)), .second, .val (.long q0), .second, .val (.long v4), .second, .val (.long v6), .second, .unset, .unset, .unset, .unset, .unset, .unset, .unset, .unset, .unset, .unset, .unset, .unset, .unset, .unset, .unset, .unset, .unset, .unset, .unset, .unset, .unset, .unset, .unset, .unset] [])) _
      refine XS.lload X0.here hx rfl (hb hby at_57) rfl ?_
      rw [hw0] at kt
      exact kt
  obtain ⟨v8, ev8⟩ : ∃ z : Int64, z = (if (3 : Int32) < v2 then q3 else (-9223372036854775808 : Int64)) := ⟨_, rfl⟩
  obtain ⟨_, _, ⟨T9, L9, k9, n9⟩, -, X9, ⟨Lc9, hQ9, l9, y9, z9⟩, st9⟩ := Jvm.LawKit.callS X0 hx (y := (⟨"java/lang/Math", "max", "(JJ)J"⟩ : MethodName)) hown (mvT hZ (hw _ (List.mem_of_getElem? (i := 2) rfl))) (mvT hZ (hw _ (List.mem_of_getElem? (i := 3) rfl))) (mvT hZ (hw _ (List.mem_of_getElem? (i := 4) rfl))) (mvT hZ (hw _ (List.mem_of_getElem? (i := 5) rfl))) (by decide) (backOf (W := 0) (rm1 l Z a0 hw [] q0 v4 h0 n0 Z0 ) hZ (hw _ (List.mem_of_getElem? (i := 5) rfl)) (hw _ (List.mem_of_getElem? (i := 4) rfl)) (by decide) (by decide)) (g := (mkF m 65 #[.val (.long q0), .second, .val (.long q1), .second, .val (.long q2), .second, .val (.long q3), .second, .val (.int p4), .val (.int v2), .val (.long (-9223372036854775808 : Int64)), .second, .val (.long q0), .second, .val (.long v4), .second, .val (.long v6), .second, .val (.long v8), .second, .unset, .unset, .unset, .unset, .unset, .unset, .unset, .unset, .unset, .unset, .unset, .unset, .unset, .unset, .unset, .unset, .unset, .unset, .unset, .unset, .unset, .unset] [(.long v4), (.long q0)])) rfl (by rw [hml]; rfl) (argsL := [(.long q0), (.long v4)]) (rest := []) (lenOf pd_0 rfl) rfl (by show 2 * 0 + _ ≤ _; exact Nat.le_of_eq rfl) (hb hby at_65) (fun _ _ => ⟨rfl, e0, (by decide : 0 + 0 ≤ _), (by decide : 0 + 0 ≤ _)⟩)
  dsimp only [Pt.U, Pt.locs, Pt.cells, Pt.slots] at X9 l9 y9 z9 st9 hQ9
  rw [l9, y9, z9] at X9
  obtain ⟨rfl, N9q, e9⟩ := hQ9
  have N9 := Fr.app N0 N9q
  obtain ⟨v10, ev10⟩ : ∃ z : Int64, z = (own_X q0 v4) := ⟨_, rfl⟩
  obtain ⟨_, _, ⟨T11, L11, k11, n11⟩, -, X11, ⟨Lc11, hQ11, l11, y11, z11⟩, st11⟩ := Jvm.LawKit.callS X9 hx (y := (⟨"java/lang/Math", "min", "(JJ)J"⟩ : MethodName)) hown (mvT hZ (hw _ (List.mem_of_getElem? (i := 6) rfl))) (mvT hZ (hw _ (List.mem_of_getElem? (i := 7) rfl))) (mvT hZ (hw _ (List.mem_of_getElem? (i := 4) rfl))) (mvT hZ (hw _ (List.mem_of_getElem? (i := 8) rfl))) (by decide) (backOf (W := 0) (rm2 l Z a0 hw [] q0 v4 h0 n0 Z0 ) hZ (hw _ (List.mem_of_getElem? (i := 8) rfl)) (hw _ (List.mem_of_getElem? (i := 4) rfl)) (by decide) (by decide)) (g := (mkF m 74 #[.val (.long q0), .second, .val (.long q1), .second, .val (.long q2), .second, .val (.long q3), .second, .val (.int p4), .val (.int v2), .val (.long (-9223372036854775808 : Int64)), .second, .val (.long q0), .second, .val (.long v4), .second, .val (.long v6), .second, .val (.long v8), .second, .val (.long v10), .second, .unset, .unset, .unset, .unset, .unset, .unset, .unset, .unset, .unset, .unset, .unset, .unset, .unset, .unset, .unset, .unset, .unset, .unset, .unset, .unset] [(.long v4), (.long q0)])) rfl (by rw [hml]; rfl) (argsL := [(.long q0), (.long v4)]) (rest := []) (lenOf pd_0 rfl) rfl (by show 2 * 0 + _ ≤ _; exact Nat.le_of_eq rfl) (hb hby at_74) (fun _ _ => ⟨rfl, e9, (by decide : 0 + 0 ≤ _), (by decide : 0 + 0 ≤ _)⟩)
  dsimp only [Pt.U, Pt.locs, Pt.cells, Pt.slots] at X11 l11 y11 z11 st11 hQ11
  rw [l11, y11, z11] at X11
  obtain ⟨rfl, N11q, e11⟩ := hQ11
  have N11 := Fr.app N9 N11q
  obtain ⟨v12, ev12⟩ : ∃ z : Int64, z = (own_N q0 v4) := ⟨_, rfl⟩
  obtain ⟨_, _, ⟨T13, L13, k13, n13⟩, -, X13, ⟨Lc13, hQ13, l13, y13, z13⟩, st13⟩ := Jvm.LawKit.callS X11 hx (y := (⟨"java/lang/Math", "max", "(JJ)J"⟩ : MethodName)) hown (mvT hZ (hw _ (List.mem_of_getElem? (i := 2) rfl))) (mvT hZ (hw _ (List.mem_of_getElem? (i := 3) rfl))) (mvT hZ (hw _ (List.mem_of_getElem? (i := 4) rfl))) (mvT hZ (hw _ (List.mem_of_getElem? (i := 5) rfl))) (by decide) (backOf (W := 0) (rm1 l Z a0 hw [] v6 v8 h0 n0 Z0 ) hZ (hw _ (List.mem_of_getElem? (i := 5) rfl)) (hw _ (List.mem_of_getElem? (i := 4) rfl)) (by decide) (by decide)) (g := (mkF m 83 #[.val (.long q0), .second, .val (.long q1), .second, .val (.long q2), .second, .val (.long q3), .second, .val (.int p4), .val (.int v2), .val (.long (-9223372036854775808 : Int64)), .second, .val (.long q0), .second, .val (.long v4), .second, .val (.long v6), .second, .val (.long v8), .second, .val (.long v10), .second, .val (.long v12), .second, .unset, .unset, .unset, .unset, .unset, .unset, .unset, .unset, .unset, .unset, .unset, .unset, .unset, .unset, .unset, .unset, .unset, .unset] [(.long v8), (.long v6)])) rfl (by rw [hml]; rfl) (argsL := [(.long v6), (.long v8)]) (rest := []) (lenOf pd_0 rfl) rfl (by show 2 * 0 + _ ≤ _; exact Nat.le_of_eq rfl) (hb hby at_83) (fun _ _ => ⟨rfl, e11, (by decide : 0 + 0 ≤ _), (by decide : 0 + 0 ≤ _)⟩)
  dsimp only [Pt.U, Pt.locs, Pt.cells, Pt.slots] at X13 l13 y13 z13 st13 hQ13
  rw [l13, y13, z13] at X13
  obtain ⟨rfl, N13q, e13⟩ := hQ13
  have N13 := Fr.app N11 N13q
  obtain ⟨v14, ev14⟩ : ∃ z : Int64, z = (own_X v6 v8) := ⟨_, rfl⟩
  obtain ⟨_, _, ⟨T15, L15, k15, n15⟩, -, X15, ⟨Lc15, hQ15, l15, y15, z15⟩, st15⟩ := Jvm.LawKit.callS X13 hx (y := (⟨"java/lang/Math", "min", "(JJ)J"⟩ : MethodName)) hown (mvT hZ (hw _ (List.mem_of_getElem? (i := 6) rfl))) (mvT hZ (hw _ (List.mem_of_getElem? (i := 7) rfl))) (mvT hZ (hw _ (List.mem_of_getElem? (i := 4) rfl))) (mvT hZ (hw _ (List.mem_of_getElem? (i := 8) rfl))) (by decide) (backOf (W := 0) (rm2 l Z a0 hw [] v6 v8 h0 n0 Z0 ) hZ (hw _ (List.mem_of_getElem? (i := 8) rfl)) (hw _ (List.mem_of_getElem? (i := 4) rfl)) (by decide) (by decide)) (g := (mkF m 92 #[.val (.long q0), .second, .val (.long q1), .second, .val (.long q2), .second, .val (.long q3), .second, .val (.int p4), .val (.int v2), .val (.long (-9223372036854775808 : Int64)), .second, .val (.long q0), .second, .val (.long v4), .second, .val (.long v6), .second, .val (.long v8), .second, .val (.long v10), .second, .val (.long v12), .second, .val (.long v14), .second, .unset, .unset, .unset, .unset, .unset, .unset, .unset, .unset, .unset, .unset, .unset, .unset, .unset, .unset, .unset, .unset] [(.long v8), (.long v6)])) rfl (by rw [hml]; rfl) (argsL := [(.long v6), (.long v8)]) (rest := []) (lenOf pd_0 rfl) rfl (by show 2 * 0 + _ ≤ _; exact Nat.le_of_eq rfl) (hb hby at_92) (fun _ _ => ⟨rfl, e13, (by decide : 0 + 0 ≤ _), (by decide : 0 + 0 ≤ _)⟩)
  dsimp only [Pt.U, Pt.locs, Pt.cells, Pt.slots] at X15 l15 y15 z15 st15 hQ15
  rw [l15, y15, z15] at X15
  obtain ⟨rfl, N15q, e15⟩ := hQ15
  have N15 := Fr.app N13 N15q
  obtain ⟨v16, ev16⟩ : ∃ z : Int64, z = (own_N v6 v8) := ⟨_, rfl⟩
  obtain ⟨_, _, ⟨T17, L17, k17, n17⟩, -, X17, ⟨Lc17, hQ17, l17, y17, z17⟩, st17⟩ := Jvm.LawKit.callS X15 hx (y := (⟨"java/lang/Math", "max", "(JJ)J"⟩ : MethodName)) hown (mvT hZ (hw _ (List.mem_of_getElem? (i := 2) rfl))) (mvT hZ (hw _ (List.mem_of_getElem? (i := 3) rfl))) (mvT hZ (hw _ (List.mem_of_getElem? (i := 4) rfl))) (mvT hZ (hw _ (List.mem_of_getElem? (i := 5) rfl))) (by decide) (backOf (W := 0) (rm1 l Z a0 hw [] v10 v14 h0 n0 Z0 ) hZ (hw _ (List.mem_of_getElem? (i := 5) rfl)) (hw _ (List.mem_of_getElem? (i := 4) rfl)) (by decide) (by decide)) (g := (mkF m 101 #[.val (.long q0), .second, .val (.long q1), .second, .val (.long q2), .second, .val (.long q3), .second, .val (.int p4), .val (.int v2), .val (.long (-9223372036854775808 : Int64)), .second, .val (.long q0), .second, .val (.long v4), .second, .val (.long v6), .second, .val (.long v8), .second, .val (.long v10), .second, .val (.long v12), .second, .val (.long v14), .second, .val (.long v16), .second, .unset, .unset, .unset, .unset, .unset, .unset, .unset, .unset, .unset, .unset, .unset, .unset, .unset, .unset] [(.long v14), (.long v10)])) rfl (by rw [hml]; rfl) (argsL := [(.long v10), (.long v14)]) (rest := []) (lenOf pd_0 rfl) rfl (by show 2 * 0 + _ ≤ _; exact Nat.le_of_eq rfl) (hb hby at_101) (fun _ _ => ⟨rfl, e15, (by decide : 0 + 0 ≤ _), (by decide : 0 + 0 ≤ _)⟩)
  dsimp only [Pt.U, Pt.locs, Pt.cells, Pt.slots] at X17 l17 y17 z17 st17 hQ17
  rw [l17, y17, z17] at X17
  obtain ⟨rfl, N17q, e17⟩ := hQ17
  have N17 := Fr.app N15 N17q
  obtain ⟨v18, ev18⟩ : ∃ z : Int64, z = (own_X v10 v14) := ⟨_, rfl⟩
  obtain ⟨_, _, ⟨T19, L19, k19, n19⟩, -, X19, ⟨Lc19, hQ19, l19, y19, z19⟩, st19⟩ := Jvm.LawKit.callS X17 hx (y := (⟨"java/lang/Math", "min", "(JJ)J"⟩ : MethodName)) hown (mvT hZ (hw _ (List.mem_of_getElem? (i := 6) rfl))) (mvT hZ (hw _ (List.mem_of_getElem? (i := 7) rfl))) (mvT hZ (hw _ (List.mem_of_getElem? (i := 4) rfl))) (mvT hZ (hw _ (List.mem_of_getElem? (i := 8) rfl))) (by decide) (backOf (W := 0) (rm2 l Z a0 hw [] v10 v14 h0 n0 Z0 ) hZ (hw _ (List.mem_of_getElem? (i := 8) rfl)) (hw _ (List.mem_of_getElem? (i := 4) rfl)) (by decide) (by decide)) (g := (mkF m 110 #[.val (.long q0), .second, .val (.long q1), .second, .val (.long q2), .second, .val (.long q3), .second, .val (.int p4), .val (.int v2), .val (.long (-9223372036854775808 : Int64)), .second, .val (.long q0), .second, .val (.long v4), .second, .val (.long v6), .second, .val (.long v8), .second, .val (.long v10), .second, .val (.long v12), .second, .val (.long v14), .second, .val (.long v16), .second, .val (.long v18), .second, .unset, .unset, .unset, .unset, .unset, .unset, .unset, .unset, .unset, .unset, .unset, .unset] [(.long v14), (.long v10)])) rfl (by rw [hml]; rfl) (argsL := [(.long v10), (.long v14)]) (rest := []) (lenOf pd_0 rfl) rfl (by show 2 * 0 + _ ≤ _; exact Nat.le_of_eq rfl) (hb hby at_110) (fun _ _ => ⟨rfl, e17, (by decide : 0 + 0 ≤ _), (by decide : 0 + 0 ≤ _)⟩)
  dsimp only [Pt.U, Pt.locs, Pt.cells, Pt.slots] at X19 l19 y19 z19 st19 hQ19
  rw [l19, y19, z19] at X19
  obtain ⟨rfl, N19q, e19⟩ := hQ19
  have N19 := Fr.app N17 N19q
  obtain ⟨v20, ev20⟩ : ∃ z : Int64, z = (own_N v10 v14) := ⟨_, rfl⟩
  obtain ⟨_, _, ⟨T21, L21, k21, n21⟩, -, X21, ⟨Lc21, hQ21, l21, y21, z21⟩, st21⟩ := Jvm.LawKit.callS X19 hx (y := (⟨"java/lang/Math", "max", "(JJ)J"⟩ : MethodName)) hown (mvT hZ (hw _ (List.mem_of_getElem? (i := 2) rfl))) (mvT hZ (hw _ (List.mem_of_getElem? (i := 3) rfl))) (mvT hZ (hw _ (List.mem_of_getElem? (i := 4) rfl))) (mvT hZ (hw _ (List.mem_of_getElem? (i := 5) rfl))) (by decide) (backOf (W := 0) (rm1 l Z a0 hw [] v12 v16 h0 n0 Z0 ) hZ (hw _ (List.mem_of_getElem? (i := 5) rfl)) (hw _ (List.mem_of_getElem? (i := 4) rfl)) (by decide) (by decide)) (g := (mkF m 119 #[.val (.long q0), .second, .val (.long q1), .second, .val (.long q2), .second, .val (.long q3), .second, .val (.int p4), .val (.int v2), .val (.long (-9223372036854775808 : Int64)), .second, .val (.long q0), .second, .val (.long v4), .second, .val (.long v6), .second, .val (.long v8), .second, .val (.long v10), .second, .val (.long v12), .second, .val (.long v14), .second, .val (.long v16), .second, .val (.long v18), .second, .val (.long v20), .second, .unset, .unset, .unset, .unset, .unset, .unset, .unset, .unset, .unset, .unset] [(.long v16), (.long v12)])) rfl (by rw [hml]; rfl) (argsL := [(.long v12), (.long v16)]) (rest := []) (lenOf pd_0 rfl) rfl (by show 2 * 0 + _ ≤ _; exact Nat.le_of_eq rfl) (hb hby at_119) (fun _ _ => ⟨rfl, e19, (by decide : 0 + 0 ≤ _), (by decide : 0 + 0 ≤ _)⟩)
  dsimp only [Pt.U, Pt.locs, Pt.cells, Pt.slots] at X21 l21 y21 z21 st21 hQ21
  rw [l21, y21, z21] at X21
  obtain ⟨rfl, N21q, e21⟩ := hQ21
  have N21 := Fr.app N19 N21q
  obtain ⟨v22, ev22⟩ : ∃ z : Int64, z = (own_X v12 v16) := ⟨_, rfl⟩
  obtain ⟨_, _, ⟨T23, L23, k23, n23⟩, -, X23, ⟨Lc23, hQ23, l23, y23, z23⟩, st23⟩ := Jvm.LawKit.callS X21 hx (y := (⟨"java/lang/Math", "min", "(JJ)J"⟩ : MethodName)) hown (mvT hZ (hw _ (List.mem_of_getElem? (i := 6) rfl))) (mvT hZ (hw _ (List.mem_of_getElem? (i := 7) rfl))) (mvT hZ (hw _ (List.mem_of_getElem? (i := 4) rfl))) (mvT hZ (hw _ (List.mem_of_getElem? (i := 8) rfl))) (by decide) (backOf (W := 0) (rm2 l Z a0 hw [] v12 v16 h0 n0 Z0 ) hZ (hw _ (List.mem_of_getElem? (i := 8) rfl)) (hw _ (List.mem_of_getElem? (i := 4) rfl)) (by decide) (by decide)) (g := (mkF m 128 #[.val (.long q0), .second, .val (.long q1), .second, .val (.long q2), .second, .val (.long q3), .second, .val (.int p4), .val (.int v2), .val (.long (-9223372036854775808 : Int64)), .second, .val (.long q0), .second, .val (.long v4), .second, .val (.long v6), .second, .val (.long v8), .second, .val (.long v10), .second, .val (.long v12), .second, .val (.long v14), .second, .val (.long v16), .second, .val (.long v18), .second, .val (.long v20), .second, .val (.long v22), .second, .unset, .unset, .unset, .unset, .unset, .unset, .unset, .unset] [(.long v16), (.long v12)])) rfl (by rw [hml]; rfl) (argsL := [(.long v12), (.long v16)]) (rest := []) (lenOf pd_0 rfl) rfl (by show 2 * 0 + _ ≤ _; exact Nat.le_of_eq rfl) (hb hby at_128) (fun _ _ => ⟨rfl, e21, (by decide : 0 + 0 ≤ _), (by decide : 0 + 0 ≤ _)⟩)
  dsimp only [Pt.U, Pt.locs, Pt.cells, Pt.slots] at X23 l23 y23 z23 st23 hQ23
  rw [l23, y23, z23] at X23
  obtain ⟨rfl, N23q, e23⟩ := hQ23
  have N23 := Fr.app N21 N23q
  obtain ⟨v24, ev24⟩ : ∃ z : Int64, z = (own_N v12 v16) := ⟨_, rfl⟩
  obtain ⟨_, _, ⟨T25, L25, k25, n25⟩, -, X25, ⟨Lc25, hQ25, l25, y25, z25⟩, st25⟩ := Jvm.LawKit.callS X23 hx (y := (⟨"java/lang/Math", "max", "(JJ)J"⟩ : MethodName)) hown (mvT hZ (hw _ (List.mem_of_getElem? (i := 2) rfl))) (mvT hZ (hw _ (List.mem_of_getElem? (i := 3) rfl))) (mvT hZ (hw _ (List.mem_of_getElem? (i := 4) rfl))) (mvT hZ (hw _ (List.mem_of_getElem? (i := 5) rfl))) (by decide) (backOf (W := 0) (rm1 l Z a0 hw [] v22 v20 h0 n0 Z0 ) hZ (hw _ (List.mem_of_getElem? (i := 5) rfl)) (hw _ (List.mem_of_getElem? (i := 4) rfl)) (by decide) (by decide)) (g := (mkF m 137 #[.val (.long q0), .second, .val (.long q1), .second, .val (.long q2), .second, .val (.long q3), .second, .val (.int p4), .val (.int v2), .val (.long (-9223372036854775808 : Int64)), .second, .val (.long q0), .second, .val (.long v4), .second, .val (.long v6), .second, .val (.long v8), .second, .val (.long v10), .second, .val (.long v12), .second, .val (.long v14), .second, .val (.long v16), .second, .val (.long v18), .second, .val (.long v20), .second, .val (.long v22), .second, .val (.long v24), .second, .unset, .unset, .unset, .unset, .unset, .unset] [(.long v20), (.long v22)])) rfl (by rw [hml]; rfl) (argsL := [(.long v22), (.long v20)]) (rest := []) (lenOf pd_0 rfl) rfl (by show 2 * 0 + _ ≤ _; exact Nat.le_of_eq rfl) (hb hby at_137) (fun _ _ => ⟨rfl, e23, (by decide : 0 + 0 ≤ _), (by decide : 0 + 0 ≤ _)⟩)
  dsimp only [Pt.U, Pt.locs, Pt.cells, Pt.slots] at X25 l25 y25 z25 st25 hQ25
  rw [l25, y25, z25] at X25
  obtain ⟨rfl, N25q, e25⟩ := hQ25
  have N25 := Fr.app N23 N25q
  obtain ⟨v26, ev26⟩ : ∃ z : Int64, z = (own_X v22 v20) := ⟨_, rfl⟩
  obtain ⟨_, _, ⟨T27, L27, k27, n27⟩, -, X27, ⟨Lc27, hQ27, l27, y27, z27⟩, st27⟩ := Jvm.LawKit.callS X25 hx (y := (⟨"java/lang/Math", "min", "(JJ)J"⟩ : MethodName)) hown (mvT hZ (hw _ (List.mem_of_getElem? (i := 6) rfl))) (mvT hZ (hw _ (List.mem_of_getElem? (i := 7) rfl))) (mvT hZ (hw _ (List.mem_of_getElem? (i := 4) rfl))) (mvT hZ (hw _ (List.mem_of_getElem? (i := 8) rfl))) (by decide) (backOf (W := 0) (rm2 l Z a0 hw [] v22 v20 h0 n0 Z0 ) hZ (hw _ (List.mem_of_getElem? (i := 8) rfl)) (hw _ (List.mem_of_getElem? (i := 4) rfl)) (by decide) (by decide)) (g := (mkF m 146 #[.val (.long q0), .second, .val (.long q1), .second, .val (.long q2), .second, .val (.long q3), .second, .val (.int p4), .val (.int v2), .val (.long (-9223372036854775808 : Int64)), .second, .val (.long q0), .second, .val (.long v4), .second, .val (.long v6), .second, .val (.long v8), .second, .val (.long v10), .second, .val (.long v12), .second, .val (.long v14), .second, .val (.long v16), .second, .val (.long v18), .second, .val (.long v20), .second, .val (.long v22), .second, .val (.long v24), .second, .val (.long v26), .second, .unset, .unset, .unset, .unset] [(.long v20), (.long v22)])) rfl (by rw [hml]; rfl) (argsL := [(.long v22), (.long v20)]) (rest := []) (lenOf pd_0 rfl) rfl (by show 2 * 0 + _ ≤ _; exact Nat.le_of_eq rfl) (hb hby at_146) (fun _ _ => ⟨rfl, e25, (by decide : 0 + 0 ≤ _), (by decide : 0 + 0 ≤ _)⟩)
  dsimp only [Pt.U, Pt.locs, Pt.cells, Pt.slots] at X27 l27 y27 z27 st27 hQ27
  rw [l27, y27, z27] at X27
  obtain ⟨rfl, N27q, e27⟩ := hQ27
  have N27 := Fr.app N25 N27q
  obtain ⟨v28, ev28⟩ : ∃ z : Int64, z = (own_N v22 v20) := ⟨_, rfl⟩
  have K29 : ∀ target, Steps p.tables e below (T27.setTop (mkF m 151 #[.val (.long q0), .second, .val (.long q1), .second, .val (.long q2), .second, .val (.long q3), .second, .val (.int p4), .val (.int v2), .val (.long (-9223372036854775808 : Int64)), .second, .val (.long q0), .second, .val (.long v4), .second, .val (.long v6), .second, .val (.long v8), .second, .val (.long v10), .second, .val (.long v12), .second, .val (.long v14), .second, .val (.long v16), .second, .val (.long v18), .second, .val (.long v20), .second, .val (.long v22), .second, .val (.long v24), .second, .val (.long v26), .second, .val (.long v28), .second, .unset, .unset] [])) target → Steps p.tables e below (s₁.setTop (mkF m 0 #[.val (.long q0), .second, .val (.long q1), .second, .val (.long q2), .second, .val (.long q3), .second, .val (.int p4), .unset, .unset, .unset, .unset, .unset, .unset, .unset, .unset, .unset, .unset, .unset, .unset, .unset, .unset, .unset, .unset, .unset, .unset, .unset, .unset, .unset, .unset, .unset, .unset, .unset, .unset, .unset, .unset, .unset, .unset, .unset, .unset, .unset] [])) target := by
    intro target kt
    refine XS.iload X0.here hx rfl (hb hby at_0) rfl ?_
    refine X0.ldcInt hx hown (mvT hZ (hw _ (List.mem_of_getElem? (i := 0) rfl))) (g := (mkF m 2 #[.val (.long q0), .second, .val (.long q1), .second, .val (.long q2), .second, .val (.long q3), .second, .val (.int p4), .unset, .unset, .unset, .unset, .unset, .unset, .unset, .unset, .unset, .unset, .unset, .unset, .unset, .unset, .unset, .unset, .unset, .unset, .unset, .unset, .unset, .unset, .unset, .unset, .unset, .unset, .unset, .unset, .unset, .unset, .unset, .unset, .unset] [(.int p4)])) rfl (hb hby at_2) _ ?_
    refine XS.iand X0.here hx rfl (hb hby at_4) rfl ?_
    show Steps p.tables e below (s₁.setTop (mkF m 5 #[.val (.long q0), .second, .val (.long q1), .second, .val (.long q2), .second, .val (.long q3), .second, .val (.int p4), .unset, .unset, .unset, .unset, .unset, .unset, .unset, .unset, .unset, .unset, .unset, .unset, .unset, .unset, .unset, .unset, .unset, .unset, .unset, .unset, .unset, .unset, .unset, .unset, .unset, .unset, .unset, .unset, .unset, .unset, .unset, .unset, .unset] [(.int (p4 &&& (2147483647 : Int32)))])) _
    refine XS.iconst X0.here hx rfl (hb hby at_5) ?_
    refine Jvm.RoadKit.iremM X0 hx rfl (hb hby at_6) rfl hnz6_1 ?_
    show Steps p.tables e below (s₁.setTop (mkF m 7 #[.val (.long q0), .second, .val (.long q1), .second, .val (.long q2), .second, .val (.long q3), .second, .val (.int p4), .unset, .unset, .unset, .unset, .unset, .unset, .unset, .unset, .unset, .unset, .unset, .unset, .unset, .unset, .unset, .unset, .unset, .unset, .unset, .unset, .unset, .unset, .unset, .unset, .unset, .unset, .unset, .unset, .unset, .unset, .unset, .unset, .unset] [(.int ((p4 &&& (2147483647 : Int32)) % (5 : Int32)))])) _
    rw [← ev2]
    show Steps p.tables e below (s₁.setTop (mkF m 7 #[.val (.long q0), .second, .val (.long q1), .second, .val (.long q2), .second, .val (.long q3), .second, .val (.int p4), .unset, .unset, .unset, .unset, .unset, .unset, .unset, .unset, .unset, .unset, .unset, .unset, .unset, .unset, .unset, .unset, .unset, .unset, .unset, .unset, .unset, .unset, .unset, .unset, .unset, .unset, .unset, .unset, .unset, .unset, .unset, .unset, .unset] [(.int v2)])) _
    refine XS.istore X0.here hx rfl (hb hby at_7) rfl (l' := #[.val (.long q0), .second, .val (.long q1), .second, .val (.long q2), .second, .val (.long q3), .second, .val (.int p4), .val (.int v2), .unset, .unset, .unset, .unset, .unset, .unset, .unset, .unset, .unset, .unset, .unset, .unset, .unset, .unset, .unset, .unset, .unset, .unset, .unset, .unset, .unset, .unset, .unset, .unset, .unset, .unset, .unset, .unset, .unset, .unset, .unset, .unset]) rfl ?_
    refine X0.ldc2Long hx hown (mvT hZ (hw _ (List.mem_of_getElem? (i := 1) rfl))) (g := (mkF m 9 #[.val (.long q0), .second, .val (.long q1), .second, .val (.long q2), .second, .val (.long q3), .second, .val (.int p4), .val (.int v2), .unset, .unset, .unset, .unset, .unset, .unset, .unset, .unset, .unset, .unset, .unset, .unset, .unset, .unset, .unset, .unset, .unset, .unset, .unset, .unset, .unset, .unset, .unset, .unset, .unset, .unset, .unset, .unset, .unset, .unset, .unset, .unset] [])) rfl (hb hby at_9) _ ?_
    show Steps p.tables e below (s₁.setTop (mkF m 12 #[.val (.long q0), .second, .val (.long q1), .second, .val (.long q2), .second, .val (.long q3), .second, .val (.int p4), .val (.int v2), .unset, .unset, .unset, .unset, .unset, .unset, .unset, .unset, .unset, .unset, .unset, .unset, .unset, .unset, .unset, .unset, .unset, .unset, .unset, .unset, .unset, .unset, .unset, .unset, .unset, .unset, .unset, .unset, .unset, .unset, .unset, .unset] [(.long (-9223372036854775808 : Int64))])) _
    refine XS.lstore X0.here hx rfl (hb hby at_12) rfl (l' := #[.val (.long q0), .second, .val (.long q1), .second, .val (.long q2), .second, .val (.long q3), .second, .val (.int p4), .val (.int v2), .val (.long (-9223372036854775808 : Int64)), .second, .unset, .unset, .unset, .unset, .unset, .unset, .unset, .unset, .unset, .unset, .unset, .unset, .unset, .unset, .unset, .unset, .unset, .unset, .unset, .unset, .unset, .unset, .unset, .unset, .unset, .unset, .unset, .unset, .unset, .unset]) rfl ?_
    refine XS.lloadN X0.here hx rfl (hb hby at_14) rfl ?_
    refine XS.lstore X0.here hx rfl (hb hby at_15) rfl (l' := #[.val (.long q0), .second, .val (.long q1), .second, .val (.long q2), .second, .val (.long q3), .second, .val (.int p4), .val (.int v2), .val (.long (-9223372036854775808 : Int64)), .second, .val (.long q0), .second, .unset, .unset, .unset, .unset, .unset, .unset, .unset, .unset, .unset, .unset, .unset, .unset, .unset, .unset, .unset, .unset, .unset, .unset, .unset, .unset, .unset, .unset, .unset, .unset, .unset, .unset, .unset, .unset]) rfl ?_
    refine XS.iload X0.here hx rfl (hb hby at_17) rfl ?_
    show Steps p.tables e below (s₁.setTop (mkF m 19 #[.val (.long q0), .second, .val (.long q1), .second, .val (.long q2), .second, .val (.long q3), .second, .val (.int p4), .val (.int v2), .val (.long (-9223372036854775808 : Int64)), .second, .val (.long q0), .second, .unset, .unset, .unset, .unset, .unset, .unset, .unset, .unset, .unset, .unset, .unset, .unset, .unset, .unset, .unset, .unset, .unset, .unset, .unset, .unset, .unset, .unset, .unset, .unset, .unset, .unset, .unset, .unset] [(.int v2)])) _
    refine XS.iconst X0.here hx rfl (hb hby at_19) ?_
    show Steps p.tables e below (s₁.setTop (mkF m 20 #[.val (.long q0), .second, .val (.long q1), .second, .val (.long q2), .second, .val (.long q3), .second, .val (.int p4), .val (.int v2), .val (.long (-9223372036854775808 : Int64)), .second, .val (.long q0), .second, .unset, .unset, .unset, .unset, .unset, .unset, .unset, .unset, .unset, .unset, .unset, .unset, .unset, .unset, .unset, .unset, .unset, .unset, .unset, .unset, .unset, .unset, .unset, .unset, .unset, .unset, .unset, .unset] [(.int (1 : Int32)), (.int v2)])) _
    refine J20_3 _ rfl _ ?_
    show Steps p.tables e below (s₁.setTop (mkF m 29 #[.val (.long q0), .second, .val (.long q1), .second, .val (.long q2), .second, .val (.long q3), .second, .val (.int p4), .val (.int v2), .val (.long (-9223372036854775808 : Int64)), .second, .val (.long q0), .second, .unset, .unset, .unset, .unset, .unset, .unset, .unset, .unset, .unset, .unset, .unset, .unset, .unset, .unset, .unset, .unset, .unset, .unset, .unset, .unset, .unset, .unset, .unset, .unset, .unset, .unset, .unset, .unset] [(.long (if (1 : Int32) < v2 then q1 else (-9223372036854775808 : Int64)))])) _
    rw [← ev4]
    show Steps p.tables e below (s₁.setTop (mkF m 29 #[.val (.long q0), .second, .val (.long q1), .second, .val (.long q2), .second, .val (.long q3), .second, .val (.int p4), .val (.int v2), .val (.long (-9223372036854775808 : Int64)), .second, .val (.long q0), .second, .unset, .unset, .unset, .unset, .unset, .unset, .unset, .unset, .unset, .unset, .unset, .unset, .unset, .unset, .unset, .unset, .unset, .unset, .unset, .unset, .unset, .unset, .unset, .unset, .unset, .unset, .unset, .unset] [(.long v4)])) _
    refine XS.lstore X0.here hx rfl (hb hby at_29) rfl (l' := #[.val (.long q0), .second, .val (.long q1), .second, .val (.long q2), .second, .val (.long q3), .second, .val (.int p4), .val (.int v2), .val (.long (-9223372036854775808 : Int64)), .second, .val (.long q0), .second, .val (.long v4), .second, .unset, .unset, .unset, .unset, .unset, .unset, .unset, .unset, .unset, .unset, .unset, .unset, .unset, .unset, .unset, .unset, .unset, .unset, .unset, .unset, .unset, .unset, .unset, .unset, .unset, .unset]) rfl ?_
    show Steps p.tables e below (s₁.setTop (mkF m 31 #[.val (.long q0), .second, .val (.long q1), .second, .val (.long q2), .second, .val (.long q3), .second, .val (.int p4), .val (.int v2), .val (.long (-9223372036854775808 : Int64)), .second, .val (.long q0), .second, .val (.long v4), .second, .unset, .unset, .unset, .unset, .unset, .unset, .unset, .unset, .unset, .unset, .unset, .unset, .unset, .unset, .unset, .unset, .unset, .unset, .unset, .unset, .unset, .unset, .unset, .unset, .unset, .unset] [])) _
    refine XS.iload X0.here hx rfl (hb hby at_31) rfl ?_
    refine XS.iconst X0.here hx rfl (hb hby at_33) ?_
    show Steps p.tables e below (s₁.setTop (mkF m 34 #[.val (.long q0), .second, .val (.long q1), .second, .val (.long q2), .second, .val (.long q3), .second, .val (.int p4), .val (.int v2), .val (.long (-9223372036854775808 : Int64)), .second, .val (.long q0), .second, .val (.long v4), .second, .unset, .unset, .unset, .unset, .unset, .unset, .unset, .unset, .unset, .unset, .unset, .unset, .unset, .unset, .unset, .unset, .unset, .unset, .unset, .unset, .unset, .unset, .unset, .unset, .unset, .unset] [(.int (2 : Int32)), (.int v2)])) _
    refine J34_5 _ rfl _ ?_
    show Steps p.tables e below (s₁.setTop (mkF m 44 #[.val (.long q0), .second, .val (.long q1), .second, .val (.long q2), .second, .val (.long q3), .second, .val (.int p4), .val (.int v2), .val (.long (-9223372036854775808 : Int64)), .second, .val (.long q0), .second, .val (.long v4), .second, .unset, .unset, .unset, .unset, .unset, .unset, .unset, .unset, .unset, .unset, .unset, .unset, .unset, .unset, .unset, .unset, .unset, .unset, .unset, .unset, .unset, .unset, .unset, .unset, .unset, .unset] [(.long (if (2 : Int32) < v2 then q2 else (-9223372036854775808 : Int64)))])) _
    rw [← ev6]
    show Steps p.tables e below (s₁.setTop (mkF m 44 #[.val (.long q0), .second, .val (.long q1), .second, .val (.long q2), .second, .val (.long q3), .second, .val (.int p4), .val (.int v2), .val (.long (-9223372036854775808 : Int64)), .second, .val (.long q0), .second, .val (.long v4), .second, .unset, .unset, .unset, .unset, .unset, .unset, .unset, .unset, .unset, .unset, .unset, .unset, .unset, .unset, .unset, .unset, .unset, .unset, .unset, .unset, .unset, .unset, .unset, .unset, .unset, .unset] [(.long v6)])) _
    refine XS.lstore X0.here hx rfl (hb hby at_44) rfl (l' := #[.val (.long q0), .second, .val (.long q1), .second, .val (.long q2), .second, .val (.long q3), .second, .val (.int p4), .val (.int v2), .val (.long (-9223372036854775808 : Int64)), .second, .val (.long q0), .second, .val (.long v4), .second, .val (.long v6), .second, .unset, .unset, .unset, .unset, .unset, .unset, .unset, .unset, .unset, .unset, .unset, .unset, .unset, .unset, .unset, .unset, .unset, .unset, .unset, .unset, .unset, .unset, .unset, .unset]) rfl ?_
    refine XS.iload X0.here hx rfl (hb hby at_46) rfl ?_
    refine XS.iconst X0.here hx rfl (hb hby at_48) ?_
    show Steps p.tables e below (s₁.setTop (mkF m 49 #[.val (.long q0), .second, .val (.long q1), .second, .val (.long q2), .second, .val (.long q3), .second, .val (.int p4), .val (.int v2), .val (.long (-9223372036854775808 : Int64)), .second, .val (.long q0), .second, .val (.long v4), .second, .val (.long v6), .second, .unset, .unset, .unset, .unset, .unset, .unset, .unset, .unset, .unset, .unset, .unset, .unset, .unset, .unset, .unset, .unset, .unset, .unset, .unset, .unset, .unset, .unset, .unset, .unset] [(.int (3 : Int32)), (.int v2)])) _
    refine J49_7 _ rfl _ ?_
    show Steps p.tables e below (s₁.setTop (mkF m 59 #[.val (.long q0), .second, .val (.long q1), .second, .val (.long q2), .second, .val (.long q3), .second, .val (.int p4), .val (.int v2), .val (.long (-9223372036854775808 : Int64)), .second, .val (.long q0), .second, .val (.long v4), .second, .val (.long v6), .second, .unset, .unset, .unset, .unset, .unset, .unset, .unset, .unset, .unset, .unset, .unset, .unset, .unset, .unset, .unset, .unset, .unset, .unset, .unset, .unset, .unset, .unset, .unset, .unset] [(.long (if (3 : Int32) < v2 then q3 else (-9223372036854775808 : Int64)))])) _
    rw [← ev8]
    show Steps p.tables e below (s₁.setTop (mkF m 59 #[.val (.long q0), .second, .val (.long q1), .second, .val (.long q2), .second, .val (.long q3), .second, .val (.int p4), .val (.int v2), .val (.long (-9223372036854775808 : Int64)), .second, .val (.long q0), .second, .val (.long v4), .second, .val (.long v6), .second, .unset, .unset, .unset, .unset, .unset, .unset, .unset, .unset, .unset, .unset, .unset, .unset, .unset, .unset, .unset, .unset, .unset, .unset, .unset, .unset, .unset, .unset, .unset, .unset] [(.long v8)])) _
    refine XS.lstore X0.here hx rfl (hb hby at_59) rfl (l' := #[.val (.long q0), .second, .val (.long q1), .second, .val (.long q2), .second, .val (.long q3), .second, .val (.int p4), .val (.int v2), .val (.long (-9223372036854775808 : Int64)), .second, .val (.long q0), .second, .val (.long v4), .second, .val (.long v6), .second, .val (.long v8), .second, .unset, .unset, .unset, .unset, .unset, .unset, .unset, .unset, .unset, .unset, .unset, .unset, .unset, .unset, .unset, .unset, .unset, .unset, .unset, .unset, .unset, .unset]) rfl ?_
    refine XS.lload X0.here hx rfl (hb hby at_61) rfl ?_
    refine XS.lload X0.here hx rfl (hb hby at_63) rfl ?_
    show Steps p.tables e below (s₁.setTop (mkF m 65 #[.val (.long q0), .second, .val (.long q1), .second, .val (.long q2), .second, .val (.long q3), .second, .val (.int p4), .val (.int v2), .val (.long (-9223372036854775808 : Int64)), .second, .val (.long q0), .second, .val (.long v4), .second, .val (.long v6), .second, .val (.long v8), .second, .unset, .unset, .unset, .unset, .unset, .unset, .unset, .unset, .unset, .unset, .unset, .unset, .unset, .unset, .unset, .unset, .unset, .unset, .unset, .unset, .unset, .unset] [(.long v4), (.long q0)])) _
    refine st9 _ ?_
    show Steps p.tables e below (T9.setTop (mkF m 68 #[.val (.long q0), .second, .val (.long q1), .second, .val (.long q2), .second, .val (.long q3), .second, .val (.int p4), .val (.int v2), .val (.long (-9223372036854775808 : Int64)), .second, .val (.long q0), .second, .val (.long v4), .second, .val (.long v6), .second, .val (.long v8), .second, .unset, .unset, .unset, .unset, .unset, .unset, .unset, .unset, .unset, .unset, .unset, .unset, .unset, .unset, .unset, .unset, .unset, .unset, .unset, .unset, .unset, .unset] [(.long (own_X q0 v4))])) _
    rw [← ev10]
    show Steps p.tables e below (T9.setTop (mkF m 68 #[.val (.long q0), .second, .val (.long q1), .second, .val (.long q2), .second, .val (.long q3), .second, .val (.int p4), .val (.int v2), .val (.long (-9223372036854775808 : Int64)), .second, .val (.long q0), .second, .val (.long v4), .second, .val (.long v6), .second, .val (.long v8), .second, .unset, .unset, .unset, .unset, .unset, .unset, .unset, .unset, .unset, .unset, .unset, .unset, .unset, .unset, .unset, .unset, .unset, .unset, .unset, .unset, .unset, .unset] [(.long v10)])) _
    refine XS.lstore X9.here hx rfl (hb hby at_68) rfl (l' := #[.val (.long q0), .second, .val (.long q1), .second, .val (.long q2), .second, .val (.long q3), .second, .val (.int p4), .val (.int v2), .val (.long (-9223372036854775808 : Int64)), .second, .val (.long q0), .second, .val (.long v4), .second, .val (.long v6), .second, .val (.long v8), .second, .val (.long v10), .second, .unset, .unset, .unset, .unset, .unset, .unset, .unset, .unset, .unset, .unset, .unset, .unset, .unset, .unset, .unset, .unset, .unset, .unset, .unset, .unset]) rfl ?_
    refine XS.lload X9.here hx rfl (hb hby at_70) rfl ?_
    refine XS.lload X9.here hx rfl (hb hby at_72) rfl ?_
    show Steps p.tables e below (T9.setTop (mkF m 74 #[.val (.long q0), .second, .val (.long q1), .second, .val (.long q2), .second, .val (.long q3), .second, .val (.int p4), .val (.int v2), .val (.long (-9223372036854775808 : Int64)), .second, .val (.long q0), .second, .val (.long v4), .second, .val (.long v6), .second, .val (.long v8), .second, .val (.long v10), .second, .unset, .unset, .unset, .unset, .unset, .unset, .unset, .unset, .unset, .unset, .unset, .unset, .unset, .unset, .unset, .unset, .unset, .unset, .unset, .unset] [(.long v4), (.long q0)])) _
    refine st11 _ ?_
    show Steps p.tables e below (T11.setTop (mkF m 77 #[.val (.long q0), .second, .val (.long q1), .second, .val (.long q2), .second, .val (.long q3), .second, .val (.int p4), .val (.int v2), .val (.long (-9223372036854775808 : Int64)), .second, .val (.long q0), .second, .val (.long v4), .second, .val (.long v6), .second, .val (.long v8), .second, .val (.long v10), .second, .unset, .unset, .unset, .unset, .unset, .unset, .unset, .unset, .unset, .unset, .unset, .unset, .unset, .unset, .unset, .unset, .unset, .unset, .unset, .unset] [(.long (own_N q0 v4))])) _
    rw [← ev12]
    show Steps p.tables e below (T11.setTop (mkF m 77 #[.val (.long q0), .second, .val (.long q1), .second, .val (.long q2), .second, .val (.long q3), .second, .val (.int p4), .val (.int v2), .val (.long (-9223372036854775808 : Int64)), .second, .val (.long q0), .second, .val (.long v4), .second, .val (.long v6), .second, .val (.long v8), .second, .val (.long v10), .second, .unset, .unset, .unset, .unset, .unset, .unset, .unset, .unset, .unset, .unset, .unset, .unset, .unset, .unset, .unset, .unset, .unset, .unset, .unset, .unset] [(.long v12)])) _
    refine XS.lstore X11.here hx rfl (hb hby at_77) rfl (l' := #[.val (.long q0), .second, .val (.long q1), .second, .val (.long q2), .second, .val (.long q3), .second, .val (.int p4), .val (.int v2), .val (.long (-9223372036854775808 : Int64)), .second, .val (.long q0), .second, .val (.long v4), .second, .val (.long v6), .second, .val (.long v8), .second, .val (.long v10), .second, .val (.long v12), .second, .unset, .unset, .unset, .unset, .unset, .unset, .unset, .unset, .unset, .unset, .unset, .unset, .unset, .unset, .unset, .unset, .unset, .unset]) rfl ?_
    refine XS.lload X11.here hx rfl (hb hby at_79) rfl ?_
    refine XS.lload X11.here hx rfl (hb hby at_81) rfl ?_
    show Steps p.tables e below (T11.setTop (mkF m 83 #[.val (.long q0), .second, .val (.long q1), .second, .val (.long q2), .second, .val (.long q3), .second, .val (.int p4), .val (.int v2), .val (.long (-9223372036854775808 : Int64)), .second, .val (.long q0), .second, .val (.long v4), .second, .val (.long v6), .second, .val (.long v8), .second, .val (.long v10), .second, .val (.long v12), .second, .unset, .unset, .unset, .unset, .unset, .unset, .unset, .unset, .unset, .unset, .unset, .unset, .unset, .unset, .unset, .unset, .unset, .unset] [(.long v8), (.long v6)])) _
    refine st13 _ ?_
    show Steps p.tables e below (T13.setTop (mkF m 86 #[.val (.long q0), .second, .val (.long q1), .second, .val (.long q2), .second, .val (.long q3), .second, .val (.int p4), .val (.int v2), .val (.long (-9223372036854775808 : Int64)), .second, .val (.long q0), .second, .val (.long v4), .second, .val (.long v6), .second, .val (.long v8), .second, .val (.long v10), .second, .val (.long v12), .second, .unset, .unset, .unset, .unset, .unset, .unset, .unset, .unset, .unset, .unset, .unset, .unset, .unset, .unset, .unset, .unset, .unset, .unset] [(.long (own_X v6 v8))])) _
    rw [← ev14]
    show Steps p.tables e below (T13.setTop (mkF m 86 #[.val (.long q0), .second, .val (.long q1), .second, .val (.long q2), .second, .val (.long q3), .second, .val (.int p4), .val (.int v2), .val (.long (-9223372036854775808 : Int64)), .second, .val (.long q0), .second, .val (.long v4), .second, .val (.long v6), .second, .val (.long v8), .second, .val (.long v10), .second, .val (.long v12), .second, .unset, .unset, .unset, .unset, .unset, .unset, .unset, .unset, .unset, .unset, .unset, .unset, .unset, .unset, .unset, .unset, .unset, .unset] [(.long v14)])) _
    refine XS.lstore X13.here hx rfl (hb hby at_86) rfl (l' := #[.val (.long q0), .second, .val (.long q1), .second, .val (.long q2), .second, .val (.long q3), .second, .val (.int p4), .val (.int v2), .val (.long (-9223372036854775808 : Int64)), .second, .val (.long q0), .second, .val (.long v4), .second, .val (.long v6), .second, .val (.long v8), .second, .val (.long v10), .second, .val (.long v12), .second, .val (.long v14), .second, .unset, .unset, .unset, .unset, .unset, .unset, .unset, .unset, .unset, .unset, .unset, .unset, .unset, .unset, .unset, .unset]) rfl ?_
    refine XS.lload X13.here hx rfl (hb hby at_88) rfl ?_
    refine XS.lload X13.here hx rfl (hb hby at_90) rfl ?_
    show Steps p.tables e below (T13.setTop (mkF m 92 #[.val (.long q0), .second, .val (.long q1), .second, .val (.long q2), .second, .val (.long q3), .second, .val (.int p4), .val (.int v2), .val (.long (-9223372036854775808 : Int64)), .second, .val (.long q0), .second, .val (.long v4), .second, .val (.long v6), .second, .val (.long v8), .second, .val (.long v10), .second, .val (.long v12), .second, .val (.long v14), .second, .unset, .unset, .unset, .unset, .unset, .unset, .unset, .unset, .unset, .unset, .unset, .unset, .unset, .unset, .unset, .unset] [(.long v8), (.long v6)])) _
    refine st15 _ ?_
    show Steps p.tables e below (T15.setTop (mkF m 95 #[.val (.long q0), .second, .val (.long q1), .second, .val (.long q2), .second, .val (.long q3), .second, .val (.int p4), .val (.int v2), .val (.long (-9223372036854775808 : Int64)), .second, .val (.long q0), .second, .val (.long v4), .second, .val (.long v6), .second, .val (.long v8), .second, .val (.long v10), .second, .val (.long v12), .second, .val (.long v14), .second, .unset, .unset, .unset, .unset, .unset, .unset, .unset, .unset, .unset, .unset, .unset, .unset, .unset, .unset, .unset, .unset] [(.long (own_N v6 v8))])) _
    rw [← ev16]
    show Steps p.tables e below (T15.setTop (mkF m 95 #[.val (.long q0), .second, .val (.long q1), .second, .val (.long q2), .second, .val (.long q3), .second, .val (.int p4), .val (.int v2), .val (.long (-9223372036854775808 : Int64)), .second, .val (.long q0), .second, .val (.long v4), .second, .val (.long v6), .second, .val (.long v8), .second, .val (.long v10), .second, .val (.long v12), .second, .val (.long v14), .second, .unset, .unset, .unset, .unset, .unset, .unset, .unset, .unset, .unset, .unset, .unset, .unset, .unset, .unset, .unset, .unset] [(.long v16)])) _
    refine XS.lstore X15.here hx rfl (hb hby at_95) rfl (l' := #[.val (.long q0), .second, .val (.long q1), .second, .val (.long q2), .second, .val (.long q3), .second, .val (.int p4), .val (.int v2), .val (.long (-9223372036854775808 : Int64)), .second, .val (.long q0), .second, .val (.long v4), .second, .val (.long v6), .second, .val (.long v8), .second, .val (.long v10), .second, .val (.long v12), .second, .val (.long v14), .second, .val (.long v16), .second, .unset, .unset, .unset, .unset, .unset, .unset, .unset, .unset, .unset, .unset, .unset, .unset, .unset, .unset]) rfl ?_
    refine XS.lload X15.here hx rfl (hb hby at_97) rfl ?_
    refine XS.lload X15.here hx rfl (hb hby at_99) rfl ?_
    show Steps p.tables e below (T15.setTop (mkF m 101 #[.val (.long q0), .second, .val (.long q1), .second, .val (.long q2), .second, .val (.long q3), .second, .val (.int p4), .val (.int v2), .val (.long (-9223372036854775808 : Int64)), .second, .val (.long q0), .second, .val (.long v4), .second, .val (.long v6), .second, .val (.long v8), .second, .val (.long v10), .second, .val (.long v12), .second, .val (.long v14), .second, .val (.long v16), .second, .unset, .unset, .unset, .unset, .unset, .unset, .unset, .unset, .unset, .unset, .unset, .unset, .unset, .unset] [(.long v14), (.long v10)])) _
    refine st17 _ ?_
    show Steps p.tables e below (T17.setTop (mkF m 104 #[.val (.long q0), .second, .val (.long q1), .second, .val (.long q2), .second, .val (.long q3), .second, .val (.int p4), .val (.int v2), .val (.long (-9223372036854775808 : Int64)), .second, .val (.long q0), .second, .val (.long v4), .second, .val (.long v6), .second, .val (.long v8), .second, .val (.long v10), .second, .val (.long v12), .second, .val (.long v14), .second, .val (.long v16), .second, .unset, .unset, .unset, .unset, .unset, .unset, .unset, .unset, .unset, .unset, .unset, .unset, .unset, .unset] [(.long (own_X v10 v14))])) _
    rw [← ev18]
    show Steps p.tables e below (T17.setTop (mkF m 104 #[.val (.long q0), .second, .val (.long q1), .second, .val (.long q2), .second, .val (.long q3), .second, .val (.int p4), .val (.int v2), .val (.long (-9223372036854775808 : Int64)), .second, .val (.long q0), .second, .val (.long v4), .second, .val (.long v6), .second, .val (.long v8), .second, .val (.long v10), .second, .val (.long v12), .second, .val (.long v14), .second, .val (.long v16), .second, .unset, .unset, .unset, .unset, .unset, .unset, .unset, .unset, .unset, .unset, .unset, .unset, .unset, .unset] [(.long v18)])) _
    refine XS.lstore X17.here hx rfl (hb hby at_104) rfl (l' := #[.val (.long q0), .second, .val (.long q1), .second, .val (.long q2), .second, .val (.long q3), .second, .val (.int p4), .val (.int v2), .val (.long (-9223372036854775808 : Int64)), .second, .val (.long q0), .second, .val (.long v4), .second, .val (.long v6), .second, .val (.long v8), .second, .val (.long v10), .second, .val (.long v12), .second, .val (.long v14), .second, .val (.long v16), .second, .val (.long v18), .second, .unset, .unset, .unset, .unset, .unset, .unset, .unset, .unset, .unset, .unset, .unset, .unset]) rfl ?_
    refine XS.lload X17.here hx rfl (hb hby at_106) rfl ?_
    refine XS.lload X17.here hx rfl (hb hby at_108) rfl ?_
    show Steps p.tables e below (T17.setTop (mkF m 110 #[.val (.long q0), .second, .val (.long q1), .second, .val (.long q2), .second, .val (.long q3), .second, .val (.int p4), .val (.int v2), .val (.long (-9223372036854775808 : Int64)), .second, .val (.long q0), .second, .val (.long v4), .second, .val (.long v6), .second, .val (.long v8), .second, .val (.long v10), .second, .val (.long v12), .second, .val (.long v14), .second, .val (.long v16), .second, .val (.long v18), .second, .unset, .unset, .unset, .unset, .unset, .unset, .unset, .unset, .unset, .unset, .unset, .unset] [(.long v14), (.long v10)])) _
    refine st19 _ ?_
    show Steps p.tables e below (T19.setTop (mkF m 113 #[.val (.long q0), .second, .val (.long q1), .second, .val (.long q2), .second, .val (.long q3), .second, .val (.int p4), .val (.int v2), .val (.long (-9223372036854775808 : Int64)), .second, .val (.long q0), .second, .val (.long v4), .second, .val (.long v6), .second, .val (.long v8), .second, .val (.long v10), .second, .val (.long v12), .second, .val (.long v14), .second, .val (.long v16), .second, .val (.long v18), .second, .unset, .unset, .unset, .unset, .unset, .unset, .unset, .unset, .unset, .unset, .unset, .unset] [(.long (own_N v10 v14))])) _
    rw [← ev20]
    show Steps p.tables e below (T19.setTop (mkF m 113 #[.val (.long q0), .second, .val (.long q1), .second, .val (.long q2), .second, .val (.long q3), .second, .val (.int p4), .val (.int v2), .val (.long (-9223372036854775808 : Int64)), .second, .val (.long q0), .second, .val (.long v4), .second, .val (.long v6), .second, .val (.long v8), .second, .val (.long v10), .second, .val (.long v12), .second, .val (.long v14), .second, .val (.long v16), .second, .val (.long v18), .second, .unset, .unset, .unset, .unset, .unset, .unset, .unset, .unset, .unset, .unset, .unset, .unset] [(.long v20)])) _
    refine XS.lstore X19.here hx rfl (hb hby at_113) rfl (l' := #[.val (.long q0), .second, .val (.long q1), .second, .val (.long q2), .second, .val (.long q3), .second, .val (.int p4), .val (.int v2), .val (.long (-9223372036854775808 : Int64)), .second, .val (.long q0), .second, .val (.long v4), .second, .val (.long v6), .second, .val (.long v8), .second, .val (.long v10), .second, .val (.long v12), .second, .val (.long v14), .second, .val (.long v16), .second, .val (.long v18), .second, .val (.long v20), .second, .unset, .unset, .unset, .unset, .unset, .unset, .unset, .unset, .unset, .unset]) rfl ?_
    refine XS.lload X19.here hx rfl (hb hby at_115) rfl ?_
    refine XS.lload X19.here hx rfl (hb hby at_117) rfl ?_
    show Steps p.tables e below (T19.setTop (mkF m 119 #[.val (.long q0), .second, .val (.long q1), .second, .val (.long q2), .second, .val (.long q3), .second, .val (.int p4), .val (.int v2), .val (.long (-9223372036854775808 : Int64)), .second, .val (.long q0), .second, .val (.long v4), .second, .val (.long v6), .second, .val (.long v8), .second, .val (.long v10), .second, .val (.long v12), .second, .val (.long v14), .second, .val (.long v16), .second, .val (.long v18), .second, .val (.long v20), .second, .unset, .unset, .unset, .unset, .unset, .unset, .unset, .unset, .unset, .unset] [(.long v16), (.long v12)])) _
    refine st21 _ ?_
    show Steps p.tables e below (T21.setTop (mkF m 122 #[.val (.long q0), .second, .val (.long q1), .second, .val (.long q2), .second, .val (.long q3), .second, .val (.int p4), .val (.int v2), .val (.long (-9223372036854775808 : Int64)), .second, .val (.long q0), .second, .val (.long v4), .second, .val (.long v6), .second, .val (.long v8), .second, .val (.long v10), .second, .val (.long v12), .second, .val (.long v14), .second, .val (.long v16), .second, .val (.long v18), .second, .val (.long v20), .second, .unset, .unset, .unset, .unset, .unset, .unset, .unset, .unset, .unset, .unset] [(.long (own_X v12 v16))])) _
    rw [← ev22]
    show Steps p.tables e below (T21.setTop (mkF m 122 #[.val (.long q0), .second, .val (.long q1), .second, .val (.long q2), .second, .val (.long q3), .second, .val (.int p4), .val (.int v2), .val (.long (-9223372036854775808 : Int64)), .second, .val (.long q0), .second, .val (.long v4), .second, .val (.long v6), .second, .val (.long v8), .second, .val (.long v10), .second, .val (.long v12), .second, .val (.long v14), .second, .val (.long v16), .second, .val (.long v18), .second, .val (.long v20), .second, .unset, .unset, .unset, .unset, .unset, .unset, .unset, .unset, .unset, .unset] [(.long v22)])) _
    refine XS.lstore X21.here hx rfl (hb hby at_122) rfl (l' := #[.val (.long q0), .second, .val (.long q1), .second, .val (.long q2), .second, .val (.long q3), .second, .val (.int p4), .val (.int v2), .val (.long (-9223372036854775808 : Int64)), .second, .val (.long q0), .second, .val (.long v4), .second, .val (.long v6), .second, .val (.long v8), .second, .val (.long v10), .second, .val (.long v12), .second, .val (.long v14), .second, .val (.long v16), .second, .val (.long v18), .second, .val (.long v20), .second, .val (.long v22), .second, .unset, .unset, .unset, .unset, .unset, .unset, .unset, .unset]) rfl ?_
    refine XS.lload X21.here hx rfl (hb hby at_124) rfl ?_
    refine XS.lload X21.here hx rfl (hb hby at_126) rfl ?_
    show Steps p.tables e below (T21.setTop (mkF m 128 #[.val (.long q0), .second, .val (.long q1), .second, .val (.long q2), .second, .val (.long q3), .second, .val (.int p4), .val (.int v2), .val (.long (-9223372036854775808 : Int64)), .second, .val (.long q0), .second, .val (.long v4), .second, .val (.long v6), .second, .val (.long v8), .second, .val (.long v10), .second, .val (.long v12), .second, .val (.long v14), .second, .val (.long v16), .second, .val (.long v18), .second, .val (.long v20), .second, .val (.long v22), .second, .unset, .unset, .unset, .unset, .unset, .unset, .unset, .unset] [(.long v16), (.long v12)])) _
    refine st23 _ ?_
    show Steps p.tables e below (T23.setTop (mkF m 131 #[.val (.long q0), .second, .val (.long q1), .second, .val (.long q2), .second, .val (.long q3), .second, .val (.int p4), .val (.int v2), .val (.long (-9223372036854775808 : Int64)), .second, .val (.long q0), .second, .val (.long v4), .second, .val (.long v6), .second, .val (.long v8), .second, .val (.long v10), .second, .val (.long v12), .second, .val (.long v14), .second, .val (.long v16), .second, .val (.long v18), .second, .val (.long v20), .second, .val (.long v22), .second, .unset, .unset, .unset, .unset, .unset, .unset, .unset, .unset] [(.long (own_N v12 v16))])) _
    rw [← ev24]
    show Steps p.tables e below (T23.setTop (mkF m 131 #[.val (.long q0), .second, .val (.long q1), .second, .val (.long q2), .second, .val (.long q3), .second, .val (.int p4), .val (.int v2), .val (.long (-9223372036854775808 : Int64)), .second, .val (.long q0), .second, .val (.long v4), .second, .val (.long v6), .second, .val (.long v8), .second, .val (.long v10), .second, .val (.long v12), .second, .val (.long v14), .second, .val (.long v16), .second, .val (.long v18), .second, .val (.long v20), .second, .val (.long v22), .second, .unset, .unset, .unset, .unset, .unset, .unset, .unset, .unset] [(.long v24)])) _
    refine XS.lstore X23.here hx rfl (hb hby at_131) rfl (l' := #[.val (.long q0), .second, .val (.long q1), .second, .val (.long q2), .second, .val (.long q3), .second, .val (.int p4), .val (.int v2), .val (.long (-9223372036854775808 : Int64)), .second, .val (.long q0), .second, .val (.long v4), .second, .val (.long v6), .second, .val (.long v8), .second, .val (.long v10), .second, .val (.long v12), .second, .val (.long v14), .second, .val (.long v16), .second, .val (.long v18), .second, .val (.long v20), .second, .val (.long v22), .second, .val (.long v24), .second, .unset, .unset, .unset, .unset, .unset, .unset]) rfl ?_
    refine XS.lload X23.here hx rfl (hb hby at_133) rfl ?_
    refine XS.lload X23.here hx rfl (hb hby at_135) rfl ?_
    show Steps p.tables e below (T23.setTop (mkF m 137 #[.val (.long q0), .second, .val (.long q1), .second, .val (.long q2), .second, .val (.long q3), .second, .val (.int p4), .val (.int v2), .val (.long (-9223372036854775808 : Int64)), .second, .val (.long q0), .second, .val (.long v4), .second, .val (.long v6), .second, .val (.long v8), .second, .val (.long v10), .second, .val (.long v12), .second, .val (.long v14), .second, .val (.long v16), .second, .val (.long v18), .second, .val (.long v20), .second, .val (.long v22), .second, .val (.long v24), .second, .unset, .unset, .unset, .unset, .unset, .unset] [(.long v20), (.long v22)])) _
    refine st25 _ ?_
    show Steps p.tables e below (T25.setTop (mkF m 140 #[.val (.long q0), .second, .val (.long q1), .second, .val (.long q2), .second, .val (.long q3), .second, .val (.int p4), .val (.int v2), .val (.long (-9223372036854775808 : Int64)), .second, .val (.long q0), .second, .val (.long v4), .second, .val (.long v6), .second, .val (.long v8), .second, .val (.long v10), .second, .val (.long v12), .second, .val (.long v14), .second, .val (.long v16), .second, .val (.long v18), .second, .val (.long v20), .second, .val (.long v22), .second, .val (.long v24), .second, .unset, .unset, .unset, .unset, .unset, .unset] [(.long (own_X v22 v20))])) _
    rw [← ev26]
    show Steps p.tables e below (T25.setTop (mkF m 140 #[.val (.long q0), .second, .val (.long q1), .second, .val (.long q2), .second, .val (.long q3), .second, .val (.int p4), .val (.int v2), .val (.long (-9223372036854775808 : Int64)), .second, .val (.long q0), .second, .val (.long v4), .second, .val (.long v6), .second, .val (.long v8), .second, .val (.long v10), .second, .val (.long v12), .second, .val (.long v14), .second, .val (.long v16), .second, .val (.long v18), .second, .val (.long v20), .second, .val (.long v22), .second, .val (.long v24), .second, .unset, .unset, .unset, .unset, .unset, .unset] [(.long v26)])) _
    refine XS.lstore X25.here hx rfl (hb hby at_140) rfl (l' := #[.val (.long q0), .second, .val (.long q1), .second, .val (.long q2), .second, .val (.long q3), .second, .val (.int p4), .val (.int v2), .val (.long (-9223372036854775808 : Int64)), .second, .val (.long q0), .second, .val (.long v4), .second, .val (.long v6), .second, .val (.long v8), .second, .val (.long v10), .second, .val (.long v12), .second, .val (.long v14), .second, .val (.long v16), .second, .val (.long v18), .second, .val (.long v20), .second, .val (.long v22), .second, .val (.long v24), .second, .val (.long v26), .second, .unset, .unset, .unset, .unset]) rfl ?_
    refine XS.lload X25.here hx rfl (hb hby at_142) rfl ?_
    refine XS.lload X25.here hx rfl (hb hby at_144) rfl ?_
    show Steps p.tables e below (T25.setTop (mkF m 146 #[.val (.long q0), .second, .val (.long q1), .second, .val (.long q2), .second, .val (.long q3), .second, .val (.int p4), .val (.int v2), .val (.long (-9223372036854775808 : Int64)), .second, .val (.long q0), .second, .val (.long v4), .second, .val (.long v6), .second, .val (.long v8), .second, .val (.long v10), .second, .val (.long v12), .second, .val (.long v14), .second, .val (.long v16), .second, .val (.long v18), .second, .val (.long v20), .second, .val (.long v22), .second, .val (.long v24), .second, .val (.long v26), .second, .unset, .unset, .unset, .unset] [(.long v20), (.long v22)])) _
    refine st27 _ ?_
    show Steps p.tables e below (T27.setTop (mkF m 149 #[.val (.long q0), .second, .val (.long q1), .second, .val (.long q2), .second, .val (.long q3), .second, .val (.int p4), .val (.int v2), .val (.long (-9223372036854775808 : Int64)), .second, .val (.long q0), .second, .val (.long v4), .second, .val (.long v6), .second, .val (.long v8), .second, .val (.long v10), .second, .val (.long v12), .second, .val (.long v14), .second, .val (.long v16), .second, .val (.long v18), .second, .val (.long v20), .second, .val (.long v22), .second, .val (.long v24), .second, .val (.long v26), .second, .unset, .unset, .unset, .unset] [(.long (own_N v22 v20))])) _
    rw [← ev28]
    show Steps p.tables e below (T27.setTop (mkF m 149 #[.val (.long q0), .second, .val (.long q1), .second, .val (.long q2), .second, .val (.long q3), .second, .val (.int p4), .val (.int v2), .val (.long (-9223372036854775808 : Int64)), .second, .val (.long q0), .second, .val (.long v4), .second, .val (.long v6), .second, .val (.long v8), .second, .val (.long v10), .second, .val (.long v12), .second, .val (.long v14), .second, .val (.long v16), .second, .val (.long v18), .second, .val (.long v20), .second, .val (.long v22), .second, .val (.long v24), .second, .val (.long v26), .second, .unset, .unset, .unset, .unset] [(.long v28)])) _
    refine XS.lstore X27.here hx rfl (hb hby at_149) rfl (l' := #[.val (.long q0), .second, .val (.long q1), .second, .val (.long q2), .second, .val (.long q3), .second, .val (.int p4), .val (.int v2), .val (.long (-9223372036854775808 : Int64)), .second, .val (.long q0), .second, .val (.long v4), .second, .val (.long v6), .second, .val (.long v8), .second, .val (.long v10), .second, .val (.long v12), .second, .val (.long v14), .second, .val (.long v16), .second, .val (.long v18), .second, .val (.long v20), .second, .val (.long v22), .second, .val (.long v24), .second, .val (.long v26), .second, .val (.long v28), .second, .unset, .unset]) rfl ?_
    exact kt
  refine Done.of ?_ K29
  rcases own_five ev2 with hn5 | hn5 | hn5 | hn5 | hn5
  · skip
    have xe0 := ev4.trans (if_neg (by rw [hn5]; decide))
    have xe1 := ev6.trans (if_neg (by rw [hn5]; decide))
    have xe2 := ev8.trans (if_neg (by rw [hn5]; decide))
    have hd153_30 : v2 = (0 : Int32) := by rw [hn5]; try decide
    obtain ⟨T31, h31, k31, X31, e31, E31, A31, st31⟩ := newP X27 hx hZ (hw _ (List.mem_of_getElem? (i := 9) rfl)) e27 (g := (mkF m 157 #[.val (.long q0), .second, .val (.long q1), .second, .val (.long q2), .second, .val (.long q3), .second, .val (.int p4), .val (.int v2), .val (.long (-9223372036854775808 : Int64)), .second, .val (.long q0), .second, .val (.long v4), .second, .val (.long v6), .second, .val (.long v8), .second, .val (.long v10), .second, .val (.long v12), .second, .val (.long v14), .second, .val (.long v16), .second, .val (.long v18), .second, .val (.long v20), .second, .val (.long v22), .second, .val (.long v24), .second, .val (.long v26), .second, .val (.long v28), .second, .unset, .unset] [(.int (0 : Int32))])) rfl (hb hby at_157) rfl (by decide) (cap := 0) (by decide) (by decide) (by decide) (by decide)
    obtain ⟨b31, g31⟩ : ∃ z, z = h0.size := ⟨_, rfl⟩
    rw [← g31] at A31 st31
    have gnb31 : n0 ≤ b31 := Nat.le_trans Z0 (Nat.le_of_eq g31.symm)
    have Z31 : n0 ≤ h31.size := Nat.le_trans Z0 E31.1
    have V31 : Arv Z h31 b31 k31 .long (0 : Int32) [] (.long (0 : Int64)) := (Arv.new A31 (by decide)).pad (pad_rep [] (.long (0 : Int64)) 0)
    obtain ⟨_, _, ⟨T32, L32, k32, n32⟩, -, X32, ⟨Lc32, hQ32, l32, y32, z32⟩, st32⟩ := Jvm.LawKit.callS X31 hx (y := (⟨"com/example/firepick/firepick/TimeTags", "rank", "([J)V"⟩ : MethodName)) hown (mvT hZ (hw _ (List.mem_of_getElem? (i := 10) rfl))) (mvT hZ (hw _ (List.mem_of_getElem? (i := 11) rfl))) (mvT hZ (hw _ (List.mem_of_getElem? (i := 12) rfl))) (mvT hZ (hw _ (List.mem_of_getElem? (i := 13) rfl))) (by decide) (backOf (W := 0) (rm3n0 l Z a0 hw [] b31 k31 _ h31 n0 Z31 V31 gnb31) hZ (hw _ (List.mem_of_getElem? (i := 13) rfl)) (hw _ (List.mem_of_getElem? (i := 12) rfl)) (by decide) (by decide)) (g := (mkF m 256 #[.val (.long q0), .second, .val (.long q1), .second, .val (.long q2), .second, .val (.long q3), .second, .val (.int p4), .val (.int v2), .val (.long (-9223372036854775808 : Int64)), .second, .val (.long q0), .second, .val (.long v4), .second, .val (.long v6), .second, .val (.long v8), .second, .val (.long v10), .second, .val (.long v12), .second, .val (.long v14), .second, .val (.long v16), .second, .val (.long v18), .second, .val (.long v20), .second, .val (.long v22), .second, .val (.long v24), .second, .val (.long v26), .second, .val (.long v28), .second, .val (.ref b31), .unset] [(.ref b31)])) rfl (by rw [hml]; rfl) (argsL := [(.ref b31)]) (rest := []) (lenOf pd_1 rfl) rfl (by show 2 * 0 + _ ≤ _; exact Nat.le_of_eq rfl) (hb hby at_256) (fun _ _ => ⟨rfl, e31, (by decide : 1 + 0 ≤ _), (by decide : 0 + 0 ≤ _)⟩)
    dsimp only [Pt.U, Pt.locs, Pt.cells, Pt.slots] at X32 l32 y32 z32 st32 hQ32
    rw [l32, y32, z32] at X32
    obtain ⟨rfl, N32q, K32q, VR32⟩ := hQ32
    have N32 := Fr.app N27 N32q
    have Z32 : n0 ≤ T32.heap.size := Nat.le_trans Z31 K32q.1
    obtain ⟨cl33, Ar33, qq33, S33, M33, H33, G33⟩ := id VR32
    have hd264_34 : (0 : Int32) = v2 := by rw [hn5]; try decide
    have hd281_35 : ¬ ((0 : Int32) < v2) := by rw [hn5]; try decide
    have hd309_36 : ¬ ((1 : Int32) < v2) := by rw [hn5]; try decide
    have hd337_37 : ¬ ((2 : Int32) < v2) := by rw [hn5]; try decide
    have hd365_38 : ¬ ((3 : Int32) < v2) := by rw [hn5]; try decide
    obtain ⟨fs, hr, hrun, hended, hW, hsame⟩ := X32.leave (v := some (.int (1 : Int32))) (fun h => by rw [Bd.returns] at h; cases h)
    refine ⟨_, _, ?_, hrun, hended, _, _, rfl, ?_, ⟨_, rfl⟩, hW, hsame.mono (by decide) (by decide)⟩
    · refine XS.iload X27.here hx rfl (hb hby at_151) rfl ?_
      show Steps p.tables e below (T27.setTop (mkF m 153 #[.val (.long q0), .second, .val (.long q1), .second, .val (.long q2), .second, .val (.long q3), .second, .val (.int p4), .val (.int v2), .val (.long (-9223372036854775808 : Int64)), .second, .val (.long q0), .second, .val (.long v4), .second, .val (.long v6), .second, .val (.long v8), .second, .val (.long v10), .second, .val (.long v12), .second, .val (.long v14), .second, .val (.long v16), .second, .val (.long v18), .second, .val (.long v20), .second, .val (.long v22), .second, .val (.long v24), .second, .val (.long v26), .second, .val (.long v28), .second, .unset, .unset] [(.int v2)])) _
      refine XS.ifNo X27.here hx rfl (hb hby at_153) rfl ((if0 _ _).trans (teq hd153_30).2) ?_
      refine XS.iconst X27.here hx rfl (hb hby at_156) ?_
      show Steps p.tables e below (T27.setTop (mkF m 157 #[.val (.long q0), .second, .val (.long q1), .second, .val (.long q2), .second, .val (.long q3), .second, .val (.int p4), .val (.int v2), .val (.long (-9223372036854775808 : Int64)), .second, .val (.long q0), .second, .val (.long v4), .second, .val (.long v6), .second, .val (.long v8), .second, .val (.long v10), .second, .val (.long v12), .second, .val (.long v14), .second, .val (.long v16), .second, .val (.long v18), .second, .val (.long v20), .second, .val (.long v22), .second, .val (.long v24), .second, .val (.long v26), .second, .val (.long v28), .second, .unset, .unset] [(.int (0 : Int32))])) _
      refine st31 _ ?_
      refine XS.astore X31.here hx rfl (hb hby at_159) rfl rfl (l' := #[.val (.long q0), .second, .val (.long q1), .second, .val (.long q2), .second, .val (.long q3), .second, .val (.int p4), .val (.int v2), .val (.long (-9223372036854775808 : Int64)), .second, .val (.long q0), .second, .val (.long v4), .second, .val (.long v6), .second, .val (.long v8), .second, .val (.long v10), .second, .val (.long v12), .second, .val (.long v14), .second, .val (.long v16), .second, .val (.long v18), .second, .val (.long v20), .second, .val (.long v22), .second, .val (.long v24), .second, .val (.long v26), .second, .val (.long v28), .second, .val (.ref b31), .unset]) rfl ?_
      show Steps p.tables e below (T31.setTop (mkF m 161 #[.val (.long q0), .second, .val (.long q1), .second, .val (.long q2), .second, .val (.long q3), .second, .val (.int p4), .val (.int v2), .val (.long (-9223372036854775808 : Int64)), .second, .val (.long q0), .second, .val (.long v4), .second, .val (.long v6), .second, .val (.long v8), .second, .val (.long v10), .second, .val (.long v12), .second, .val (.long v14), .second, .val (.long v16), .second, .val (.long v18), .second, .val (.long v20), .second, .val (.long v22), .second, .val (.long v24), .second, .val (.long v26), .second, .val (.long v28), .second, .val (.ref b31), .unset] [])) _
      refine XS.goto X31.here hx rfl (pc0 := 161) (pc' := 254) rfl (hb hby at_161) (by decide) (by decide) ?_
      refine XS.aload X31.here hx rfl (hb hby at_254) rfl rfl ?_
      refine st32 _ ?_
      show Steps p.tables e below (T32.setTop (mkF m 259 #[.val (.long q0), .second, .val (.long q1), .second, .val (.long q2), .second, .val (.long q3), .second, .val (.int p4), .val (.int v2), .val (.long (-9223372036854775808 : Int64)), .second, .val (.long q0), .second, .val (.long v4), .second, .val (.long v6), .second, .val (.long v8), .second, .val (.long v10), .second, .val (.long v12), .second, .val (.long v14), .second, .val (.long v16), .second, .val (.long v18), .second, .val (.long v20), .second, .val (.long v22), .second, .val (.long v24), .second, .val (.long v26), .second, .val (.long v28), .second, .val (.ref b31), .unset] [])) _
      refine XS.aload X32.here hx rfl (hb hby at_259) rfl rfl ?_
      refine X32.arraylength hx Ar33.1 (State.isArrayOf_alike hZ.alike Ar33.2.1) (g := (mkF m 261 #[.val (.long q0), .second, .val (.long q1), .second, .val (.long q2), .second, .val (.long q3), .second, .val (.int p4), .val (.int v2), .val (.long (-9223372036854775808 : Int64)), .second, .val (.long q0), .second, .val (.long v4), .second, .val (.long v6), .second, .val (.long v8), .second, .val (.long v10), .second, .val (.long v12), .second, .val (.long v14), .second, .val (.long v16), .second, .val (.long v18), .second, .val (.long v20), .second, .val (.long v22), .second, .val (.long v24), .second, .val (.long v26), .second, .val (.long v28), .second, .val (.ref b31), .unset] [(.ref b31)])) rfl rfl (hb hby at_261) _ ?_
      rw [len_of S33 M33]
      refine XS.iload X32.here hx rfl (hb hby at_262) rfl ?_
      show Steps p.tables e below (T32.setTop (mkF m 264 #[.val (.long q0), .second, .val (.long q1), .second, .val (.long q2), .second, .val (.long q3), .second, .val (.int p4), .val (.int v2), .val (.long (-9223372036854775808 : Int64)), .second, .val (.long q0), .second, .val (.long v4), .second, .val (.long v6), .second, .val (.long v8), .second, .val (.long v10), .second, .val (.long v12), .second, .val (.long v14), .second, .val (.long v16), .second, .val (.long v18), .second, .val (.long v20), .second, .val (.long v22), .second, .val (.long v24), .second, .val (.long v26), .second, .val (.long v28), .second, .val (.ref b31), .unset] [(.int v2), (.int (0 : Int32))])) _
      refine XS.icmpNo X32.here hx rfl (hb hby at_264) rfl (teq hd264_34).2 ?_
      refine XS.iconst X32.here hx rfl (hb hby at_267) ?_
      show Steps p.tables e below (T32.setTop (mkF m 268 #[.val (.long q0), .second, .val (.long q1), .second, .val (.long q2), .second, .val (.long q3), .second, .val (.int p4), .val (.int v2), .val (.long (-9223372036854775808 : Int64)), .second, .val (.long q0), .second, .val (.long v4), .second, .val (.long v6), .second, .val (.long v8), .second, .val (.long v10), .second, .val (.long v12), .second, .val (.long v14), .second, .val (.long v16), .second, .val (.long v18), .second, .val (.long v20), .second, .val (.long v22), .second, .val (.long v24), .second, .val (.long v26), .second, .val (.long v28), .second, .val (.ref b31), .unset] [(.int (1 : Int32))])) _
      refine XS.goto X32.here hx rfl (pc0 := 268) (pc' := 272) rfl (hb hby at_268) (by decide) (by decide) ?_
      show Steps p.tables e below (T32.setTop (mkF m 272 #[.val (.long q0), .second, .val (.long q1), .second, .val (.long q2), .second, .val (.long q3), .second, .val (.int p4), .val (.int v2), .val (.long (-9223372036854775808 : Int64)), .second, .val (.long q0), .second, .val (.long v4), .second, .val (.long v6), .second, .val (.long v8), .second, .val (.long v10), .second, .val (.long v12), .second, .val (.long v14), .second, .val (.long v16), .second, .val (.long v18), .second, .val (.long v20), .second, .val (.long v22), .second, .val (.long v24), .second, .val (.long v26), .second, .val (.long v28), .second, .val (.ref b31), .unset] [(.int (1 : Int32))])) _
      refine XS.istore X32.here hx rfl (hb hby at_272) rfl (l' := #[.val (.long q0), .second, .val (.long q1), .second, .val (.long q2), .second, .val (.long q3), .second, .val (.int p4), .val (.int v2), .val (.long (-9223372036854775808 : Int64)), .second, .val (.long q0), .second, .val (.long v4), .second, .val (.long v6), .second, .val (.long v8), .second, .val (.long v10), .second, .val (.long v12), .second, .val (.long v14), .second, .val (.long v16), .second, .val (.long v18), .second, .val (.long v20), .second, .val (.long v22), .second, .val (.long v24), .second, .val (.long v26), .second, .val (.long v28), .second, .val (.ref b31), .val (.int (1 : Int32))]) rfl ?_
      refine XS.iload X32.here hx rfl (hb hby at_274) rfl ?_
      show Steps p.tables e below (T32.setTop (mkF m 276 #[.val (.long q0), .second, .val (.long q1), .second, .val (.long q2), .second, .val (.long q3), .second, .val (.int p4), .val (.int v2), .val (.long (-9223372036854775808 : Int64)), .second, .val (.long q0), .second, .val (.long v4), .second, .val (.long v6), .second, .val (.long v8), .second, .val (.long v10), .second, .val (.long v12), .second, .val (.long v14), .second, .val (.long v16), .second, .val (.long v18), .second, .val (.long v20), .second, .val (.long v22), .second, .val (.long v24), .second, .val (.long v26), .second, .val (.long v28), .second, .val (.ref b31), .val (.int (1 : Int32))] [(.int (1 : Int32))])) _
      refine XS.ifNo X32.here hx rfl (hb hby at_276) rfl ((if0 _ _).trans (feq (by decide : ¬ ((1 : Int32) = (0 : Int32)))).1) ?_
      refine XS.iload X32.here hx rfl (hb hby at_279) rfl ?_
      show Steps p.tables e below (T32.setTop (mkF m 281 #[.val (.long q0), .second, .val (.long q1), .second, .val (.long q2), .second, .val (.long q3), .second, .val (.int p4), .val (.int v2), .val (.long (-9223372036854775808 : Int64)), .second, .val (.long q0), .second, .val (.long v4), .second, .val (.long v6), .second, .val (.long v8), .second, .val (.long v10), .second, .val (.long v12), .second, .val (.long v14), .second, .val (.long v16), .second, .val (.long v18), .second, .val (.long v20), .second, .val (.long v22), .second, .val (.long v24), .second, .val (.long v26), .second, .val (.long v28), .second, .val (.ref b31), .val (.int (1 : Int32))] [(.int v2)])) _
      refine XS.ifYes X32.here hx rfl (pc0 := 281) (pc' := 301) rfl (hb hby at_281) rfl ((if0 _ _).trans (flt hd281_35).2.2.2) (by decide) (by decide) ?_
      refine XS.iload X32.here hx rfl (hb hby at_301) rfl ?_
      show Steps p.tables e below (T32.setTop (mkF m 303 #[.val (.long q0), .second, .val (.long q1), .second, .val (.long q2), .second, .val (.long q3), .second, .val (.int p4), .val (.int v2), .val (.long (-9223372036854775808 : Int64)), .second, .val (.long q0), .second, .val (.long v4), .second, .val (.long v6), .second, .val (.long v8), .second, .val (.long v10), .second, .val (.long v12), .second, .val (.long v14), .second, .val (.long v16), .second, .val (.long v18), .second, .val (.long v20), .second, .val (.long v22), .second, .val (.long v24), .second, .val (.long v26), .second, .val (.long v28), .second, .val (.ref b31), .val (.int (1 : Int32))] [(.int (1 : Int32))])) _
      refine XS.ifNo X32.here hx rfl (hb hby at_303) rfl ((if0 _ _).trans (feq (by decide : ¬ ((1 : Int32) = (0 : Int32)))).1) ?_
      show Steps p.tables e below (T32.setTop (mkF m 306 #[.val (.long q0), .second, .val (.long q1), .second, .val (.long q2), .second, .val (.long q3), .second, .val (.int p4), .val (.int v2), .val (.long (-9223372036854775808 : Int64)), .second, .val (.long q0), .second, .val (.long v4), .second, .val (.long v6), .second, .val (.long v8), .second, .val (.long v10), .second, .val (.long v12), .second, .val (.long v14), .second, .val (.long v16), .second, .val (.long v18), .second, .val (.long v20), .second, .val (.long v22), .second, .val (.long v24), .second, .val (.long v26), .second, .val (.long v28), .second, .val (.ref b31), .val (.int (1 : Int32))] [])) _
      refine XS.iload X32.here hx rfl (hb hby at_306) rfl ?_
      refine XS.iconst X32.here hx rfl (hb hby at_308) ?_
      show Steps p.tables e below (T32.setTop (mkF m 309 #[.val (.long q0), .second, .val (.long q1), .second, .val (.long q2), .second, .val (.long q3), .second, .val (.int p4), .val (.int v2), .val (.long (-9223372036854775808 : Int64)), .second, .val (.long q0), .second, .val (.long v4), .second, .val (.long v6), .second, .val (.long v8), .second, .val (.long v10), .second, .val (.long v12), .second, .val (.long v14), .second, .val (.long v16), .second, .val (.long v18), .second, .val (.long v20), .second, .val (.long v22), .second, .val (.long v24), .second, .val (.long v26), .second, .val (.long v28), .second, .val (.ref b31), .val (.int (1 : Int32))] [(.int (1 : Int32)), (.int v2)])) _
      refine XS.icmpYes X32.here hx rfl (pc0 := 309) (pc' := 329) rfl (hb hby at_309) rfl (flt hd309_36).2.2.2 (by decide) (by decide) ?_
      refine XS.iload X32.here hx rfl (hb hby at_329) rfl ?_
      show Steps p.tables e below (T32.setTop (mkF m 331 #[.val (.long q0), .second, .val (.long q1), .second, .val (.long q2), .second, .val (.long q3), .second, .val (.int p4), .val (.int v2), .val (.long (-9223372036854775808 : Int64)), .second, .val (.long q0), .second, .val (.long v4), .second, .val (.long v6), .second, .val (.long v8), .second, .val (.long v10), .second, .val (.long v12), .second, .val (.long v14), .second, .val (.long v16), .second, .val (.long v18), .second, .val (.long v20), .second, .val (.long v22), .second, .val (.long v24), .second, .val (.long v26), .second, .val (.long v28), .second, .val (.ref b31), .val (.int (1 : Int32))] [(.int (1 : Int32))])) _
      refine XS.ifNo X32.here hx rfl (hb hby at_331) rfl ((if0 _ _).trans (feq (by decide : ¬ ((1 : Int32) = (0 : Int32)))).1) ?_
      refine XS.iload X32.here hx rfl (hb hby at_334) rfl ?_
      show Steps p.tables e below (T32.setTop (mkF m 336 #[.val (.long q0), .second, .val (.long q1), .second, .val (.long q2), .second, .val (.long q3), .second, .val (.int p4), .val (.int v2), .val (.long (-9223372036854775808 : Int64)), .second, .val (.long q0), .second, .val (.long v4), .second, .val (.long v6), .second, .val (.long v8), .second, .val (.long v10), .second, .val (.long v12), .second, .val (.long v14), .second, .val (.long v16), .second, .val (.long v18), .second, .val (.long v20), .second, .val (.long v22), .second, .val (.long v24), .second, .val (.long v26), .second, .val (.long v28), .second, .val (.ref b31), .val (.int (1 : Int32))] [(.int v2)])) _
      refine XS.iconst X32.here hx rfl (hb hby at_336) ?_
      show Steps p.tables e below (T32.setTop (mkF m 337 #[.val (.long q0), .second, .val (.long q1), .second, .val (.long q2), .second, .val (.long q3), .second, .val (.int p4), .val (.int v2), .val (.long (-9223372036854775808 : Int64)), .second, .val (.long q0), .second, .val (.long v4), .second, .val (.long v6), .second, .val (.long v8), .second, .val (.long v10), .second, .val (.long v12), .second, .val (.long v14), .second, .val (.long v16), .second, .val (.long v18), .second, .val (.long v20), .second, .val (.long v22), .second, .val (.long v24), .second, .val (.long v26), .second, .val (.long v28), .second, .val (.ref b31), .val (.int (1 : Int32))] [(.int (2 : Int32)), (.int v2)])) _
      refine XS.icmpYes X32.here hx rfl (pc0 := 337) (pc' := 357) rfl (hb hby at_337) rfl (flt hd337_37).2.2.2 (by decide) (by decide) ?_
      refine XS.iload X32.here hx rfl (hb hby at_357) rfl ?_
      show Steps p.tables e below (T32.setTop (mkF m 359 #[.val (.long q0), .second, .val (.long q1), .second, .val (.long q2), .second, .val (.long q3), .second, .val (.int p4), .val (.int v2), .val (.long (-9223372036854775808 : Int64)), .second, .val (.long q0), .second, .val (.long v4), .second, .val (.long v6), .second, .val (.long v8), .second, .val (.long v10), .second, .val (.long v12), .second, .val (.long v14), .second, .val (.long v16), .second, .val (.long v18), .second, .val (.long v20), .second, .val (.long v22), .second, .val (.long v24), .second, .val (.long v26), .second, .val (.long v28), .second, .val (.ref b31), .val (.int (1 : Int32))] [(.int (1 : Int32))])) _
      refine XS.ifNo X32.here hx rfl (hb hby at_359) rfl ((if0 _ _).trans (feq (by decide : ¬ ((1 : Int32) = (0 : Int32)))).1) ?_
      refine XS.iload X32.here hx rfl (hb hby at_362) rfl ?_
      refine XS.iconst X32.here hx rfl (hb hby at_364) ?_
      show Steps p.tables e below (T32.setTop (mkF m 365 #[.val (.long q0), .second, .val (.long q1), .second, .val (.long q2), .second, .val (.long q3), .second, .val (.int p4), .val (.int v2), .val (.long (-9223372036854775808 : Int64)), .second, .val (.long q0), .second, .val (.long v4), .second, .val (.long v6), .second, .val (.long v8), .second, .val (.long v10), .second, .val (.long v12), .second, .val (.long v14), .second, .val (.long v16), .second, .val (.long v18), .second, .val (.long v20), .second, .val (.long v22), .second, .val (.long v24), .second, .val (.long v26), .second, .val (.long v28), .second, .val (.ref b31), .val (.int (1 : Int32))] [(.int (3 : Int32)), (.int v2)])) _
      refine XS.icmpYes X32.here hx rfl (pc0 := 365) (pc' := 385) rfl (hb hby at_365) rfl (flt hd365_38).2.2.2 (by decide) (by decide) ?_
      show Steps p.tables e below (T32.setTop (mkF m 385 #[.val (.long q0), .second, .val (.long q1), .second, .val (.long q2), .second, .val (.long q3), .second, .val (.int p4), .val (.int v2), .val (.long (-9223372036854775808 : Int64)), .second, .val (.long q0), .second, .val (.long v4), .second, .val (.long v6), .second, .val (.long v8), .second, .val (.long v10), .second, .val (.long v12), .second, .val (.long v14), .second, .val (.long v16), .second, .val (.long v18), .second, .val (.long v20), .second, .val (.long v22), .second, .val (.long v24), .second, .val (.long v26), .second, .val (.long v28), .second, .val (.ref b31), .val (.int (1 : Int32))] [])) _
      refine XS.iload X32.here hx rfl (hb hby at_385) rfl ?_
      show Steps p.tables e below (T32.setTop (mkF m 387 #[.val (.long q0), .second, .val (.long q1), .second, .val (.long q2), .second, .val (.long q3), .second, .val (.int p4), .val (.int v2), .val (.long (-9223372036854775808 : Int64)), .second, .val (.long q0), .second, .val (.long v4), .second, .val (.long v6), .second, .val (.long v8), .second, .val (.long v10), .second, .val (.long v12), .second, .val (.long v14), .second, .val (.long v16), .second, .val (.long v18), .second, .val (.long v20), .second, .val (.long v22), .second, .val (.long v24), .second, .val (.long v26), .second, .val (.long v28), .second, .val (.ref b31), .val (.int (1 : Int32))] [(.int (1 : Int32))])) _
      exact retN X32 hx (t := .boolean) Bd.returns (by simp) (hb hby at_387) hr
    · show Q0 Z q0 q1 q2 q3 p4  h0 n0 _ T32.heap _
      exact ⟨rfl, N32⟩
  · skip
    have xe0 := ev4.trans (if_neg (by rw [hn5]; decide))
    have xe1 := ev6.trans (if_neg (by rw [hn5]; decide))
    have xe2 := ev8.trans (if_neg (by rw [hn5]; decide))
    have hd153_39 : ¬ (v2 = (0 : Int32)) := by rw [hn5]; try decide
    have hd167_40 : v2 = (1 : Int32) := by rw [hn5]; try decide
    obtain ⟨T41, h41, k41, X41, e41, E41, A41, st41⟩ := newP X27 hx hZ (hw _ (List.mem_of_getElem? (i := 9) rfl)) e27 (g := (mkF m 171 #[.val (.long q0), .second, .val (.long q1), .second, .val (.long q2), .second, .val (.long q3), .second, .val (.int p4), .val (.int v2), .val (.long (-9223372036854775808 : Int64)), .second, .val (.long q0), .second, .val (.long v4), .second, .val (.long v6), .second, .val (.long v8), .second, .val (.long v10), .second, .val (.long v12), .second, .val (.long v14), .second, .val (.long v16), .second, .val (.long v18), .second, .val (.long v20), .second, .val (.long v22), .second, .val (.long v24), .second, .val (.long v26), .second, .val (.long v28), .second, .unset, .unset] [(.int (1 : Int32))])) rfl (hb hby at_171) rfl (by decide) (cap := 1) (by decide) (by decide) (by decide) (by decide)
    obtain ⟨b41, g41⟩ : ∃ z, z = h0.size := ⟨_, rfl⟩
    rw [← g41] at A41 st41
    have gnb41 : n0 ≤ b41 := Nat.le_trans Z0 (Nat.le_of_eq g41.symm)
    have Z41 : n0 ≤ h41.size := Nat.le_trans Z0 E41.1
    have V41 : Arv Z h41 b41 k41 .long (1 : Int32) [(.long (0 : Int64))] (.long (0 : Int64)) := (Arv.new A41 (by decide)).pad (pad_rep [] (.long (0 : Int64)) 1)
    obtain ⟨cl42, Ar42, qq42, S42, M42, H42, G42⟩ := id V41
    have hin42 : ¬ ((0 : Int32) < 0 ∨ cl42.slots.size ≤ ((0 : Int32)).toNatClampNeg) := inb_of S42 ⟨by decide, by decide⟩
    obtain ⟨T43, h43, X43, e43, W43, st43⟩ := stJ X41 hx hZ e41 Ar42 (j := (0 : Int32)) hin42 (g := (mkF m 176 #[.val (.long q0), .second, .val (.long q1), .second, .val (.long q2), .second, .val (.long q3), .second, .val (.int p4), .val (.int v2), .val (.long (-9223372036854775808 : Int64)), .second, .val (.long q0), .second, .val (.long v4), .second, .val (.long v6), .second, .val (.long v8), .second, .val (.long v10), .second, .val (.long v12), .second, .val (.long v14), .second, .val (.long v16), .second, .val (.long v18), .second, .val (.long v20), .second, .val (.long v22), .second, .val (.long v24), .second, .val (.long v26), .second, .val (.long v28), .second, .unset, .unset] [(.long q0), (.int (0 : Int32)), (.ref b41), (.ref b41)])) rfl rfl (hb hby at_176)
    have V43 : Arv Z h43 b41 k41 .long (1 : Int32) [(.long q0)] _ := Arv.set Ar42 qq42 S42 M42 H42 G42 rfl W43 0 rfl (Nat.le_of_ble_eq_true rfl)
    have N43 := Fr.snoc X43 N27 gnb41
    have Z43 : n0 ≤ h43.size := Nat.le_trans Z41 (Nat.le_of_eq W43.size.symm)
    obtain ⟨_, _, ⟨T44, L44, k44, n44⟩, -, X44, ⟨Lc44, hQ44, l44, y44, z44⟩, st44⟩ := Jvm.LawKit.callS X43 hx (y := (⟨"com/example/firepick/firepick/TimeTags", "rank", "([J)V"⟩ : MethodName)) hown (mvT hZ (hw _ (List.mem_of_getElem? (i := 10) rfl))) (mvT hZ (hw _ (List.mem_of_getElem? (i := 11) rfl))) (mvT hZ (hw _ (List.mem_of_getElem? (i := 12) rfl))) (mvT hZ (hw _ (List.mem_of_getElem? (i := 13) rfl))) (by decide) (backOf (W := 0) (rm3n1 l Z a0 hw [] b41 k41 _ q0 h43 n0 Z43 V43 gnb41) hZ (hw _ (List.mem_of_getElem? (i := 13) rfl)) (hw _ (List.mem_of_getElem? (i := 12) rfl)) (by decide) (by decide)) (g := (mkF m 256 #[.val (.long q0), .second, .val (.long q1), .second, .val (.long q2), .second, .val (.long q3), .second, .val (.int p4), .val (.int v2), .val (.long (-9223372036854775808 : Int64)), .second, .val (.long q0), .second, .val (.long v4), .second, .val (.long v6), .second, .val (.long v8), .second, .val (.long v10), .second, .val (.long v12), .second, .val (.long v14), .second, .val (.long v16), .second, .val (.long v18), .second, .val (.long v20), .second, .val (.long v22), .second, .val (.long v24), .second, .val (.long v26), .second, .val (.long v28), .second, .val (.ref b41), .unset] [(.ref b41)])) rfl (by rw [hml]; rfl) (argsL := [(.ref b41)]) (rest := []) (lenOf pd_1 rfl) rfl (by show 2 * 0 + _ ≤ _; exact Nat.le_of_eq rfl) (hb hby at_256) (fun _ _ => ⟨rfl, e43, (by decide : 1 + 0 ≤ _), (by decide : 1 + 0 ≤ _)⟩)
    dsimp only [Pt.U, Pt.locs, Pt.cells, Pt.slots] at X44 l44 y44 z44 st44 hQ44
    rw [l44, y44, z44] at X44
    obtain ⟨rfl, N44q, K44q, VR44⟩ := hQ44
    have N44 := Fr.app N43 N44q
    have Z44 : n0 ≤ T44.heap.size := Nat.le_trans Z43 K44q.1
    obtain ⟨cl45, Ar45, qq45, S45, M45, H45, G45⟩ := id VR44
    have hd264_46 : (1 : Int32) = v2 := by rw [hn5]; try decide
    have hd281_47 : (0 : Int32) < v2 := by rw [hn5]; try decide
    obtain ⟨cl48, Ar48, qq48, S48, M48, H48, G48⟩ := id VR44
    have hin48 : ¬ ((0 : Int32) < 0 ∨ cl48.slots.size ≤ ((0 : Int32)).toNatClampNeg) := inb_of S48 ⟨by decide, by decide⟩
    have hat48 : cl48.slots[((0 : Int32)).toNatClampNeg]? = some (.long q0) := H48 0 (by rw [S48]; decide)
    have hd291_49 : q0 = v18 := by simp only [ev10, ev12, ev14, ev16, ev18, ev20, ev22, ev24, ev26, ev28, xe0, xe1, xe2, own_x1, own_x2, own_n1, own_n2]
    have hd309_50 : ¬ ((1 : Int32) < v2) := by rw [hn5]; try decide
    have hd337_51 : ¬ ((2 : Int32) < v2) := by rw [hn5]; try decide
    have hd365_52 : ¬ ((3 : Int32) < v2) := by rw [hn5]; try decide
    obtain ⟨fs, hr, hrun, hended, hW, hsame⟩ := X44.leave (v := some (.int (1 : Int32))) (fun h => by rw [Bd.returns] at h; cases h)
    refine ⟨_, _, ?_, hrun, hended, _, _, rfl, ?_, ⟨_, rfl⟩, hW, hsame.mono (by decide) (by decide)⟩
    · refine XS.iload X27.here hx rfl (hb hby at_151) rfl ?_
      show Steps p.tables e below (T27.setTop (mkF m 153 #[.val (.long q0), .second, .val (.long q1), .second, .val (.long q2), .second, .val (.long q3), .second, .val (.int p4), .val (.int v2), .val (.long (-9223372036854775808 : Int64)), .second, .val (.long q0), .second, .val (.long v4), .second, .val (.long v6), .second, .val (.long v8), .second, .val (.long v10), .second, .val (.long v12), .second, .val (.long v14), .second, .val (.long v16), .second, .val (.long v18), .second, .val (.long v20), .second, .val (.long v22), .second, .val (.long v24), .second, .val (.long v26), .second, .val (.long v28), .second, .unset, .unset] [(.int v2)])) _
      refine XS.ifYes X27.here hx rfl (pc0 := 153) (pc' := 164) rfl (hb hby at_153) rfl ((if0 _ _).trans (feq hd153_39).2) (by decide) (by decide) ?_
      refine XS.iload X27.here hx rfl (hb hby at_164) rfl ?_
      refine XS.iconst X27.here hx rfl (hb hby at_166) ?_
      show Steps p.tables e below (T27.setTop (mkF m 167 #[.val (.long q0), .second, .val (.long q1), .second, .val (.long q2), .second, .val (.long q3), .second, .val (.int p4), .val (.int v2), .val (.long (-9223372036854775808 : Int64)), .second, .val (.long q0), .second, .val (.long v4), .second, .val (.long v6), .second, .val (.long v8), .second, .val (.long v10), .second, .val (.long v12), .second, .val (.long v14), .second, .val (.long v16), .second, .val (.long v18), .second, .val (.long v20), .second, .val (.long v22), .second, .val (.long v24), .second, .val (.long v26), .second, .val (.long v28), .second, .unset, .unset] [(.int (1 : Int32)), (.int v2)])) _
      refine XS.icmpNo X27.here hx rfl (hb hby at_167) rfl (teq hd167_40).2 ?_
      show Steps p.tables e below (T27.setTop (mkF m 170 #[.val (.long q0), .second, .val (.long q1), .second, .val (.long q2), .second, .val (.long q3), .second, .val (.int p4), .val (.int v2), .val (.long (-9223372036854775808 : Int64)), .second, .val (.long q0), .second, .val (.long v4), .second, .val (.long v6), .second, .val (.long v8), .second, .val (.long v10), .second, .val (.long v12), .second, .val (.long v14), .second, .val (.long v16), .second, .val (.long v18), .second, .val (.long v20), .second, .val (.long v22), .second, .val (.long v24), .second, .val (.long v26), .second, .val (.long v28), .second, .unset, .unset] [])) _
      refine XS.iconst X27.here hx rfl (hb hby at_170) ?_
      refine st41 _ ?_
      refine XS.dup X41.here hx rfl (hb hby at_173) rfl rfl ?_
      refine XS.iconst X41.here hx rfl (hb hby at_174) ?_
      show Steps p.tables e below (T41.setTop (mkF m 175 #[.val (.long q0), .second, .val (.long q1), .second, .val (.long q2), .second, .val (.long q3), .second, .val (.int p4), .val (.int v2), .val (.long (-9223372036854775808 : Int64)), .second, .val (.long q0), .second, .val (.long v4), .second, .val (.long v6), .second, .val (.long v8), .second, .val (.long v10), .second, .val (.long v12), .second, .val (.long v14), .second, .val (.long v16), .second, .val (.long v18), .second, .val (.long v20), .second, .val (.long v22), .second, .val (.long v24), .second, .val (.long v26), .second, .val (.long v28), .second, .unset, .unset] [(.int (0 : Int32)), (.ref b41), (.ref b41)])) _
      refine XS.lloadN X41.here hx rfl (hb hby at_175) rfl ?_
      refine st43 _ ?_
      refine XS.astore X43.here hx rfl (hb hby at_177) rfl rfl (l' := #[.val (.long q0), .second, .val (.long q1), .second, .val (.long q2), .second, .val (.long q3), .second, .val (.int p4), .val (.int v2), .val (.long (-9223372036854775808 : Int64)), .second, .val (.long q0), .second, .val (.long v4), .second, .val (.long v6), .second, .val (.long v8), .second, .val (.long v10), .second, .val (.long v12), .second, .val (.long v14), .second, .val (.long v16), .second, .val (.long v18), .second, .val (.long v20), .second, .val (.long v22), .second, .val (.long v24), .second, .val (.long v26), .second, .val (.long v28), .second, .val (.ref b41), .unset]) rfl ?_
      show Steps p.tables e below (T43.setTop (mkF m 179 #[.val (.long q0), .second, .val (.long q1), .second, .val (.long q2), .second, .val (.long q3), .second, .val (.int p4), .val (.int v2), .val (.long (-9223372036854775808 : Int64)), .second, .val (.long q0), .second, .val (.long v4), .second, .val (.long v6), .second, .val (.long v8), .second, .val (.long v10), .second, .val (.long v12), .second, .val (.long v14), .second, .val (.long v16), .second, .val (.long v18), .second, .val (.long v20), .second, .val (.long v22), .second, .val (.long v24), .second, .val (.long v26), .second, .val (.long v28), .second, .val (.ref b41), .unset] [])) _
      refine XS.goto X43.here hx rfl (pc0 := 179) (pc' := 254) rfl (hb hby at_179) (by decide) (by decide) ?_
      refine XS.aload X43.here hx rfl (hb hby at_254) rfl rfl ?_
      show Steps p.tables e below (T43.setTop (mkF m 256 #[.val (.long q0), .second, .val (.long q1), .second, .val (.long q2), .second, .val (.long q3), .second, .val (.int p4), .val (.int v2), .val (.long (-9223372036854775808 : Int64)), .second, .val (.long q0), .second, .val (.long v4), .second, .val (.long v6), .second, .val (.long v8), .second, .val (.long v10), .second, .val (.long v12), .second, .val (.long v14), .second, .val (.long v16), .second, .val (.long v18), .second, .val (.long v20), .second, .val (.long v22), .second, .val (.long v24), .second, .val (.long v26), .second, .val (.long v28), .second, .val (.ref b41), .unset] [(.ref b41)])) _
      refine st44 _ ?_
      refine XS.aload X44.here hx rfl (hb hby at_259) rfl rfl ?_
      refine X44.arraylength hx Ar45.1 (State.isArrayOf_alike hZ.alike Ar45.2.1) (g := (mkF m 261 #[.val (.long q0), .second, .val (.long q1), .second, .val (.long q2), .second, .val (.long q3), .second, .val (.int p4), .val (.int v2), .val (.long (-9223372036854775808 : Int64)), .second, .val (.long q0), .second, .val (.long v4), .second, .val (.long v6), .second, .val (.long v8), .second, .val (.long v10), .second, .val (.long v12), .second, .val (.long v14), .second, .val (.long v16), .second, .val (.long v18), .second, .val (.long v20), .second, .val (.long v22), .second, .val (.long v24), .second, .val (.long v26), .second, .val (.long v28), .second, .val (.ref b41), .unset] [(.ref b41)])) rfl rfl (hb hby at_261) _ ?_
      rw [len_of S45 M45]
      refine XS.iload X44.here hx rfl (hb hby at_262) rfl ?_
      show Steps p.tables e below (T44.setTop (mkF m 264 #[.val (.long q0), .second, .val (.long q1), .second, .val (.long q2), .second, .val (.long q3), .second, .val (.int p4), .val (.int v2), .val (.long (-9223372036854775808 : Int64)), .second, .val (.long q0), .second, .val (.long v4), .second, .val (.long v6), .second, .val (.long v8), .second, .val (.long v10), .second, .val (.long v12), .second, .val (.long v14), .second, .val (.long v16), .second, .val (.long v18), .second, .val (.long v20), .second, .val (.long v22), .second, .val (.long v24), .second, .val (.long v26), .second, .val (.long v28), .second, .val (.ref b41), .unset] [(.int v2), (.int (1 : Int32))])) _
      refine XS.icmpNo X44.here hx rfl (hb hby at_264) rfl (teq hd264_46).2 ?_
      show Steps p.tables e below (T44.setTop (mkF m 267 #[.val (.long q0), .second, .val (.long q1), .second, .val (.long q2), .second, .val (.long q3), .second, .val (.int p4), .val (.int v2), .val (.long (-9223372036854775808 : Int64)), .second, .val (.long q0), .second, .val (.long v4), .second, .val (.long v6), .second, .val (.long v8), .second, .val (.long v10), .second, .val (.long v12), .second, .val (.long v14), .second, .val (.long v16), .second, .val (.long v18), .second, .val (.long v20), .second, .val (.long v22), .second, .val (.long v24), .second, .val (.long v26), .second, .val (.long v28), .second, .val (.ref b41), .unset] [])) _
      refine XS.iconst X44.here hx rfl (hb hby at_267) ?_
      show Steps p.tables e below (T44.setTop (mkF m 268 #[.val (.long q0), .second, .val (.long q1), .second, .val (.long q2), .second, .val (.long q3), .second, .val (.int p4), .val (.int v2), .val (.long (-9223372036854775808 : Int64)), .second, .val (.long q0), .second, .val (.long v4), .second, .val (.long v6), .second, .val (.long v8), .second, .val (.long v10), .second, .val (.long v12), .second, .val (.long v14), .second, .val (.long v16), .second, .val (.long v18), .second, .val (.long v20), .second, .val (.long v22), .second, .val (.long v24), .second, .val (.long v26), .second, .val (.long v28), .second, .val (.ref b41), .unset] [(.int (1 : Int32))])) _
      refine XS.goto X44.here hx rfl (pc0 := 268) (pc' := 272) rfl (hb hby at_268) (by decide) (by decide) ?_
      refine XS.istore X44.here hx rfl (hb hby at_272) rfl (l' := #[.val (.long q0), .second, .val (.long q1), .second, .val (.long q2), .second, .val (.long q3), .second, .val (.int p4), .val (.int v2), .val (.long (-9223372036854775808 : Int64)), .second, .val (.long q0), .second, .val (.long v4), .second, .val (.long v6), .second, .val (.long v8), .second, .val (.long v10), .second, .val (.long v12), .second, .val (.long v14), .second, .val (.long v16), .second, .val (.long v18), .second, .val (.long v20), .second, .val (.long v22), .second, .val (.long v24), .second, .val (.long v26), .second, .val (.long v28), .second, .val (.ref b41), .val (.int (1 : Int32))]) rfl ?_
      refine XS.iload X44.here hx rfl (hb hby at_274) rfl ?_
      show Steps p.tables e below (T44.setTop (mkF m 276 #[.val (.long q0), .second, .val (.long q1), .second, .val (.long q2), .second, .val (.long q3), .second, .val (.int p4), .val (.int v2), .val (.long (-9223372036854775808 : Int64)), .second, .val (.long q0), .second, .val (.long v4), .second, .val (.long v6), .second, .val (.long v8), .second, .val (.long v10), .second, .val (.long v12), .second, .val (.long v14), .second, .val (.long v16), .second, .val (.long v18), .second, .val (.long v20), .second, .val (.long v22), .second, .val (.long v24), .second, .val (.long v26), .second, .val (.long v28), .second, .val (.ref b41), .val (.int (1 : Int32))] [(.int (1 : Int32))])) _
      refine XS.ifNo X44.here hx rfl (hb hby at_276) rfl ((if0 _ _).trans (feq (by decide : ¬ ((1 : Int32) = (0 : Int32)))).1) ?_
      refine XS.iload X44.here hx rfl (hb hby at_279) rfl ?_
      show Steps p.tables e below (T44.setTop (mkF m 281 #[.val (.long q0), .second, .val (.long q1), .second, .val (.long q2), .second, .val (.long q3), .second, .val (.int p4), .val (.int v2), .val (.long (-9223372036854775808 : Int64)), .second, .val (.long q0), .second, .val (.long v4), .second, .val (.long v6), .second, .val (.long v8), .second, .val (.long v10), .second, .val (.long v12), .second, .val (.long v14), .second, .val (.long v16), .second, .val (.long v18), .second, .val (.long v20), .second, .val (.long v22), .second, .val (.long v24), .second, .val (.long v26), .second, .val (.long v28), .second, .val (.ref b41), .val (.int (1 : Int32))] [(.int v2)])) _
      refine XS.ifNo X44.here hx rfl (hb hby at_281) rfl ((if0 _ _).trans (tlt hd281_47).2.2.2) ?_
      show Steps p.tables e below (T44.setTop (mkF m 284 #[.val (.long q0), .second, .val (.long q1), .second, .val (.long q2), .second, .val (.long q3), .second, .val (.int p4), .val (.int v2), .val (.long (-9223372036854775808 : Int64)), .second, .val (.long q0), .second, .val (.long v4), .second, .val (.long v6), .second, .val (.long v8), .second, .val (.long v10), .second, .val (.long v12), .second, .val (.long v14), .second, .val (.long v16), .second, .val (.long v18), .second, .val (.long v20), .second, .val (.long v22), .second, .val (.long v24), .second, .val (.long v26), .second, .val (.long v28), .second, .val (.ref b41), .val (.int (1 : Int32))] [])) _
      refine XS.aload X44.here hx rfl (hb hby at_284) rfl rfl ?_
      refine XS.iconst X44.here hx rfl (hb hby at_286) ?_
      refine X44.laload hx (j := (0 : Int32)) (v := (.long q0)) Ar48.1 (State.isArrayOf_alike hZ.alike Ar48.2.1) Ar48.2.2 hin48 hat48 (g := (mkF m 287 #[.val (.long q0), .second, .val (.long q1), .second, .val (.long q2), .second, .val (.long q3), .second, .val (.int p4), .val (.int v2), .val (.long (-9223372036854775808 : Int64)), .second, .val (.long q0), .second, .val (.long v4), .second, .val (.long v6), .second, .val (.long v8), .second, .val (.long v10), .second, .val (.long v12), .second, .val (.long v14), .second, .val (.long v16), .second, .val (.long v18), .second, .val (.long v20), .second, .val (.long v22), .second, .val (.long v24), .second, .val (.long v26), .second, .val (.long v28), .second, .val (.ref b41), .val (.int (1 : Int32))] [(.int (0 : Int32)), (.ref b41)])) rfl rfl (hb hby at_287) _ ?_
      refine XS.lload X44.here hx rfl (hb hby at_288) rfl ?_
      show Steps p.tables e below (T44.setTop (mkF m 290 #[.val (.long q0), .second, .val (.long q1), .second, .val (.long q2), .second, .val (.long q3), .second, .val (.int p4), .val (.int v2), .val (.long (-9223372036854775808 : Int64)), .second, .val (.long q0), .second, .val (.long v4), .second, .val (.long v6), .second, .val (.long v8), .second, .val (.long v10), .second, .val (.long v12), .second, .val (.long v14), .second, .val (.long v16), .second, .val (.long v18), .second, .val (.long v20), .second, .val (.long v22), .second, .val (.long v24), .second, .val (.long v26), .second, .val (.long v28), .second, .val (.ref b41), .val (.int (1 : Int32))] [(.long v18), (.long q0)])) _
      refine XS.lcmp X44.here hx rfl (hb hby at_290) rfl ?_
      show Steps p.tables e below (T44.setTop (mkF m 291 #[.val (.long q0), .second, .val (.long q1), .second, .val (.long q2), .second, .val (.long q3), .second, .val (.int p4), .val (.int v2), .val (.long (-9223372036854775808 : Int64)), .second, .val (.long q0), .second, .val (.long v4), .second, .val (.long v6), .second, .val (.long v8), .second, .val (.long v10), .second, .val (.long v12), .second, .val (.long v14), .second, .val (.long v16), .second, .val (.long v18), .second, .val (.long v20), .second, .val (.long v22), .second, .val (.long v24), .second, .val (.long v26), .second, .val (.long v28), .second, .val (.ref b41), .val (.int (1 : Int32))] [(.int (lcmpW q0 v18))])) _
      refine XS.ifNo X44.here hx rfl (hb hby at_291) rfl ((if0 _ _).trans (teq ((lw_eq q0 v18).mpr hd291_49)).2) ?_
      refine XS.iconst X44.here hx rfl (hb hby at_294) ?_
      show Steps p.tables e below (T44.setTop (mkF m 295 #[.val (.long q0), .second, .val (.long q1), .second, .val (.long q2), .second, .val (.long q3), .second, .val (.int p4), .val (.int v2), .val (.long (-9223372036854775808 : Int64)), .second, .val (.long q0), .second, .val (.long v4), .second, .val (.long v6), .second, .val (.long v8), .second, .val (.long v10), .second, .val (.long v12), .second, .val (.long v14), .second, .val (.long v16), .second, .val (.long v18), .second, .val (.long v20), .second, .val (.long v22), .second, .val (.long v24), .second, .val (.long v26), .second, .val (.long v28), .second, .val (.ref b41), .val (.int (1 : Int32))] [(.int (1 : Int32))])) _
      refine XS.goto X44.here hx rfl (pc0 := 295) (pc' := 299) rfl (hb hby at_295) (by decide) (by decide) ?_
      refine XS.istore X44.here hx rfl (hb hby at_299) rfl (l' := #[.val (.long q0), .second, .val (.long q1), .second, .val (.long q2), .second, .val (.long q3), .second, .val (.int p4), .val (.int v2), .val (.long (-9223372036854775808 : Int64)), .second, .val (.long q0), .second, .val (.long v4), .second, .val (.long v6), .second, .val (.long v8), .second, .val (.long v10), .second, .val (.long v12), .second, .val (.long v14), .second, .val (.long v16), .second, .val (.long v18), .second, .val (.long v20), .second, .val (.long v22), .second, .val (.long v24), .second, .val (.long v26), .second, .val (.long v28), .second, .val (.ref b41), .val (.int (1 : Int32))]) rfl ?_
      refine XS.iload X44.here hx rfl (hb hby at_301) rfl ?_
      show Steps p.tables e below (T44.setTop (mkF m 303 #[.val (.long q0), .second, .val (.long q1), .second, .val (.long q2), .second, .val (.long q3), .second, .val (.int p4), .val (.int v2), .val (.long (-9223372036854775808 : Int64)), .second, .val (.long q0), .second, .val (.long v4), .second, .val (.long v6), .second, .val (.long v8), .second, .val (.long v10), .second, .val (.long v12), .second, .val (.long v14), .second, .val (.long v16), .second, .val (.long v18), .second, .val (.long v20), .second, .val (.long v22), .second, .val (.long v24), .second, .val (.long v26), .second, .val (.long v28), .second, .val (.ref b41), .val (.int (1 : Int32))] [(.int (1 : Int32))])) _
      refine XS.ifNo X44.here hx rfl (hb hby at_303) rfl ((if0 _ _).trans (feq (by decide : ¬ ((1 : Int32) = (0 : Int32)))).1) ?_
      show Steps p.tables e below (T44.setTop (mkF m 306 #[.val (.long q0), .second, .val (.long q1), .second, .val (.long q2), .second, .val (.long q3), .second, .val (.int p4), .val (.int v2), .val (.long (-9223372036854775808 : Int64)), .second, .val (.long q0), .second, .val (.long v4), .second, .val (.long v6), .second, .val (.long v8), .second, .val (.long v10), .second, .val (.long v12), .second, .val (.long v14), .second, .val (.long v16), .second, .val (.long v18), .second, .val (.long v20), .second, .val (.long v22), .second, .val (.long v24), .second, .val (.long v26), .second, .val (.long v28), .second, .val (.ref b41), .val (.int (1 : Int32))] [])) _
      refine XS.iload X44.here hx rfl (hb hby at_306) rfl ?_
      refine XS.iconst X44.here hx rfl (hb hby at_308) ?_
      show Steps p.tables e below (T44.setTop (mkF m 309 #[.val (.long q0), .second, .val (.long q1), .second, .val (.long q2), .second, .val (.long q3), .second, .val (.int p4), .val (.int v2), .val (.long (-9223372036854775808 : Int64)), .second, .val (.long q0), .second, .val (.long v4), .second, .val (.long v6), .second, .val (.long v8), .second, .val (.long v10), .second, .val (.long v12), .second, .val (.long v14), .second, .val (.long v16), .second, .val (.long v18), .second, .val (.long v20), .second, .val (.long v22), .second, .val (.long v24), .second, .val (.long v26), .second, .val (.long v28), .second, .val (.ref b41), .val (.int (1 : Int32))] [(.int (1 : Int32)), (.int v2)])) _
      refine XS.icmpYes X44.here hx rfl (pc0 := 309) (pc' := 329) rfl (hb hby at_309) rfl (flt hd309_50).2.2.2 (by decide) (by decide) ?_
      refine XS.iload X44.here hx rfl (hb hby at_329) rfl ?_
      show Steps p.tables e below (T44.setTop (mkF m 331 #[.val (.long q0), .second, .val (.long q1), .second, .val (.long q2), .second, .val (.long q3), .second, .val (.int p4), .val (.int v2), .val (.long (-9223372036854775808 : Int64)), .second, .val (.long q0), .second, .val (.long v4), .second, .val (.long v6), .second, .val (.long v8), .second, .val (.long v10), .second, .val (.long v12), .second, .val (.long v14), .second, .val (.long v16), .second, .val (.long v18), .second, .val (.long v20), .second, .val (.long v22), .second, .val (.long v24), .second, .val (.long v26), .second, .val (.long v28), .second, .val (.ref b41), .val (.int (1 : Int32))] [(.int (1 : Int32))])) _
      refine XS.ifNo X44.here hx rfl (hb hby at_331) rfl ((if0 _ _).trans (feq (by decide : ¬ ((1 : Int32) = (0 : Int32)))).1) ?_
      refine XS.iload X44.here hx rfl (hb hby at_334) rfl ?_
      show Steps p.tables e below (T44.setTop (mkF m 336 #[.val (.long q0), .second, .val (.long q1), .second, .val (.long q2), .second, .val (.long q3), .second, .val (.int p4), .val (.int v2), .val (.long (-9223372036854775808 : Int64)), .second, .val (.long q0), .second, .val (.long v4), .second, .val (.long v6), .second, .val (.long v8), .second, .val (.long v10), .second, .val (.long v12), .second, .val (.long v14), .second, .val (.long v16), .second, .val (.long v18), .second, .val (.long v20), .second, .val (.long v22), .second, .val (.long v24), .second, .val (.long v26), .second, .val (.long v28), .second, .val (.ref b41), .val (.int (1 : Int32))] [(.int v2)])) _
      refine XS.iconst X44.here hx rfl (hb hby at_336) ?_
      show Steps p.tables e below (T44.setTop (mkF m 337 #[.val (.long q0), .second, .val (.long q1), .second, .val (.long q2), .second, .val (.long q3), .second, .val (.int p4), .val (.int v2), .val (.long (-9223372036854775808 : Int64)), .second, .val (.long q0), .second, .val (.long v4), .second, .val (.long v6), .second, .val (.long v8), .second, .val (.long v10), .second, .val (.long v12), .second, .val (.long v14), .second, .val (.long v16), .second, .val (.long v18), .second, .val (.long v20), .second, .val (.long v22), .second, .val (.long v24), .second, .val (.long v26), .second, .val (.long v28), .second, .val (.ref b41), .val (.int (1 : Int32))] [(.int (2 : Int32)), (.int v2)])) _
      refine XS.icmpYes X44.here hx rfl (pc0 := 337) (pc' := 357) rfl (hb hby at_337) rfl (flt hd337_51).2.2.2 (by decide) (by decide) ?_
      refine XS.iload X44.here hx rfl (hb hby at_357) rfl ?_
      show Steps p.tables e below (T44.setTop (mkF m 359 #[.val (.long q0), .second, .val (.long q1), .second, .val (.long q2), .second, .val (.long q3), .second, .val (.int p4), .val (.int v2), .val (.long (-9223372036854775808 : Int64)), .second, .val (.long q0), .second, .val (.long v4), .second, .val (.long v6), .second, .val (.long v8), .second, .val (.long v10), .second, .val (.long v12), .second, .val (.long v14), .second, .val (.long v16), .second, .val (.long v18), .second, .val (.long v20), .second, .val (.long v22), .second, .val (.long v24), .second, .val (.long v26), .second, .val (.long v28), .second, .val (.ref b41), .val (.int (1 : Int32))] [(.int (1 : Int32))])) _
      refine XS.ifNo X44.here hx rfl (hb hby at_359) rfl ((if0 _ _).trans (feq (by decide : ¬ ((1 : Int32) = (0 : Int32)))).1) ?_
      refine XS.iload X44.here hx rfl (hb hby at_362) rfl ?_
      refine XS.iconst X44.here hx rfl (hb hby at_364) ?_
      show Steps p.tables e below (T44.setTop (mkF m 365 #[.val (.long q0), .second, .val (.long q1), .second, .val (.long q2), .second, .val (.long q3), .second, .val (.int p4), .val (.int v2), .val (.long (-9223372036854775808 : Int64)), .second, .val (.long q0), .second, .val (.long v4), .second, .val (.long v6), .second, .val (.long v8), .second, .val (.long v10), .second, .val (.long v12), .second, .val (.long v14), .second, .val (.long v16), .second, .val (.long v18), .second, .val (.long v20), .second, .val (.long v22), .second, .val (.long v24), .second, .val (.long v26), .second, .val (.long v28), .second, .val (.ref b41), .val (.int (1 : Int32))] [(.int (3 : Int32)), (.int v2)])) _
      refine XS.icmpYes X44.here hx rfl (pc0 := 365) (pc' := 385) rfl (hb hby at_365) rfl (flt hd365_52).2.2.2 (by decide) (by decide) ?_
      show Steps p.tables e below (T44.setTop (mkF m 385 #[.val (.long q0), .second, .val (.long q1), .second, .val (.long q2), .second, .val (.long q3), .second, .val (.int p4), .val (.int v2), .val (.long (-9223372036854775808 : Int64)), .second, .val (.long q0), .second, .val (.long v4), .second, .val (.long v6), .second, .val (.long v8), .second, .val (.long v10), .second, .val (.long v12), .second, .val (.long v14), .second, .val (.long v16), .second, .val (.long v18), .second, .val (.long v20), .second, .val (.long v22), .second, .val (.long v24), .second, .val (.long v26), .second, .val (.long v28), .second, .val (.ref b41), .val (.int (1 : Int32))] [])) _
      refine XS.iload X44.here hx rfl (hb hby at_385) rfl ?_
      show Steps p.tables e below (T44.setTop (mkF m 387 #[.val (.long q0), .second, .val (.long q1), .second, .val (.long q2), .second, .val (.long q3), .second, .val (.int p4), .val (.int v2), .val (.long (-9223372036854775808 : Int64)), .second, .val (.long q0), .second, .val (.long v4), .second, .val (.long v6), .second, .val (.long v8), .second, .val (.long v10), .second, .val (.long v12), .second, .val (.long v14), .second, .val (.long v16), .second, .val (.long v18), .second, .val (.long v20), .second, .val (.long v22), .second, .val (.long v24), .second, .val (.long v26), .second, .val (.long v28), .second, .val (.ref b41), .val (.int (1 : Int32))] [(.int (1 : Int32))])) _
      exact retN X44 hx (t := .boolean) Bd.returns (by simp) (hb hby at_387) hr
    · show Q0 Z q0 q1 q2 q3 p4  h0 n0 _ T44.heap _
      exact ⟨rfl, N44⟩
  · skip
    have xe0 := ev4.trans (if_pos (by rw [hn5]; decide))
    have xe1 := ev6.trans (if_neg (by rw [hn5]; decide))
    have xe2 := ev8.trans (if_neg (by rw [hn5]; decide))
    have hd153_53 : ¬ (v2 = (0 : Int32)) := by rw [hn5]; try decide
    have hd167_54 : ¬ (v2 = (1 : Int32)) := by rw [hn5]; try decide
    have hd185_55 : v2 = (2 : Int32) := by rw [hn5]; try decide
    obtain ⟨T56, h56, k56, X56, e56, E56, A56, st56⟩ := newP X27 hx hZ (hw _ (List.mem_of_getElem? (i := 9) rfl)) e27 (g := (mkF m 189 #[.val (.long q0), .second, .val (.long q1), .second, .val (.long q2), .second, .val (.long q3), .second, .val (.int p4), .val (.int v2), .val (.long (-9223372036854775808 : Int64)), .second, .val (.long q0), .second, .val (.long v4), .second, .val (.long v6), .second, .val (.long v8), .second, .val (.long v10), .second, .val (.long v12), .second, .val (.long v14), .second, .val (.long v16), .second, .val (.long v18), .second, .val (.long v20), .second, .val (.long v22), .second, .val (.long v24), .second, .val (.long v26), .second, .val (.long v28), .second, .unset, .unset] [(.int (2 : Int32))])) rfl (hb hby at_189) rfl (by decide) (cap := 2) (by decide) (by decide) (by decide) (by decide)
    obtain ⟨b56, g56⟩ : ∃ z, z = h0.size := ⟨_, rfl⟩
    rw [← g56] at A56 st56
    have gnb56 : n0 ≤ b56 := Nat.le_trans Z0 (Nat.le_of_eq g56.symm)
    have Z56 : n0 ≤ h56.size := Nat.le_trans Z0 E56.1
    have V56 : Arv Z h56 b56 k56 .long (2 : Int32) [(.long (0 : Int64)), (.long (0 : Int64))] (.long (0 : Int64)) := (Arv.new A56 (by decide)).pad (pad_rep [] (.long (0 : Int64)) 2)
    obtain ⟨cl57, Ar57, qq57, S57, M57, H57, G57⟩ := id V56
    have hin57 : ¬ ((0 : Int32) < 0 ∨ cl57.slots.size ≤ ((0 : Int32)).toNatClampNeg) := inb_of S57 ⟨by decide, by decide⟩
    obtain ⟨T58, h58, X58, e58, W58, st58⟩ := stJ X56 hx hZ e56 Ar57 (j := (0 : Int32)) hin57 (g := (mkF m 194 #[.val (.long q0), .second, .val (.long q1), .second, .val (.long q2), .second, .val (.long q3), .second, .val (.int p4), .val (.int v2), .val (.long (-9223372036854775808 : Int64)), .second, .val (.long q0), .second, .val (.long v4), .second, .val (.long v6), .second, .val (.long v8), .second, .val (.long v10), .second, .val (.long v12), .second, .val (.long v14), .second, .val (.long v16), .second, .val (.long v18), .second, .val (.long v20), .second, .val (.long v22), .second, .val (.long v24), .second, .val (.long v26), .second, .val (.long v28), .second, .unset, .unset] [(.long q0), (.int (0 : Int32)), (.ref b56), (.ref b56)])) rfl rfl (hb hby at_194)
    have V58 : Arv Z h58 b56 k56 .long (2 : Int32) [(.long q0), (.long (0 : Int64))] _ := Arv.set Ar57 qq57 S57 M57 H57 G57 rfl W58 0 rfl (Nat.le_of_ble_eq_true rfl)
    have N58 := Fr.snoc X58 N27 gnb56
    have Z58 : n0 ≤ h58.size := Nat.le_trans Z56 (Nat.le_of_eq W58.size.symm)
    obtain ⟨cl59, Ar59, qq59, S59, M59, H59, G59⟩ := id V58
    have hin59 : ¬ ((1 : Int32) < 0 ∨ cl59.slots.size ≤ ((1 : Int32)).toNatClampNeg) := inb_of S59 ⟨by decide, by decide⟩
    obtain ⟨T60, h60, X60, e60, W60, st60⟩ := stJ X58 hx hZ e58 Ar59 (j := (1 : Int32)) hin59 (g := (mkF m 198 #[.val (.long q0), .second, .val (.long q1), .second, .val (.long q2), .second, .val (.long q3), .second, .val (.int p4), .val (.int v2), .val (.long (-9223372036854775808 : Int64)), .second, .val (.long q0), .second, .val (.long v4), .second, .val (.long v6), .second, .val (.long v8), .second, .val (.long v10), .second, .val (.long v12), .second, .val (.long v14), .second, .val (.long v16), .second, .val (.long v18), .second, .val (.long v20), .second, .val (.long v22), .second, .val (.long v24), .second, .val (.long v26), .second, .val (.long v28), .second, .unset, .unset] [(.long q1), (.int (1 : Int32)), (.ref b56), (.ref b56)])) rfl rfl (hb hby at_198)
    have V60 : Arv Z h60 b56 k56 .long (2 : Int32) [(.long q0), (.long q1)] _ := Arv.set Ar59 qq59 S59 M59 H59 G59 rfl W60 1 rfl (Nat.le_of_ble_eq_true rfl)
    have N60 := Fr.snoc X60 N58 gnb56
    have Z60 : n0 ≤ h60.size := Nat.le_trans Z58 (Nat.le_of_eq W60.size.symm)
    obtain ⟨_, _, ⟨T61, L61, k61, n61⟩, -, X61, ⟨Lc61, hQ61, l61, y61, z61⟩, st61⟩ := Jvm.LawKit.callS X60 hx (y := (⟨"com/example/firepick/firepick/TimeTags", "rank", "([J)V"⟩ : MethodName)) hown (mvT hZ (hw _ (List.mem_of_getElem? (i := 10) rfl))) (mvT hZ (hw _ (List.mem_of_getElem? (i := 11) rfl))) (mvT hZ (hw _ (List.mem_of_getElem? (i := 12) rfl))) (mvT hZ (hw _ (List.mem_of_getElem? (i := 13) rfl))) (by decide) (backOf (W := 0) (rm3n2 l Z a0 hw [] b56 k56 _ q0 q1 h60 n0 Z60 V60 gnb56) hZ (hw _ (List.mem_of_getElem? (i := 13) rfl)) (hw _ (List.mem_of_getElem? (i := 12) rfl)) (by decide) (by decide)) (g := (mkF m 256 #[.val (.long q0), .second, .val (.long q1), .second, .val (.long q2), .second, .val (.long q3), .second, .val (.int p4), .val (.int v2), .val (.long (-9223372036854775808 : Int64)), .second, .val (.long q0), .second, .val (.long v4), .second, .val (.long v6), .second, .val (.long v8), .second, .val (.long v10), .second, .val (.long v12), .second, .val (.long v14), .second, .val (.long v16), .second, .val (.long v18), .second, .val (.long v20), .second, .val (.long v22), .second, .val (.long v24), .second, .val (.long v26), .second, .val (.long v28), .second, .val (.ref b56), .unset] [(.ref b56)])) rfl (by rw [hml]; rfl) (argsL := [(.ref b56)]) (rest := []) (lenOf pd_1 rfl) rfl (by show 2 * 0 + _ ≤ _; exact Nat.le_of_eq rfl) (hb hby at_256) (fun _ _ => ⟨rfl, e60, (by decide : 1 + 0 ≤ _), (by decide : 2 + 0 ≤ _)⟩)
    dsimp only [Pt.U, Pt.locs, Pt.cells, Pt.slots] at X61 l61 y61 z61 st61 hQ61
    rw [l61, y61, z61] at X61
    obtain ⟨rfl, N61q, K61q, VR61⟩ := hQ61
    have N61 := Fr.app N60 N61q
    have Z61 : n0 ≤ T61.heap.size := Nat.le_trans Z60 K61q.1
    obtain ⟨cl62, Ar62, qq62, S62, M62, H62, G62⟩ := id VR61
    have hd264_63 : (2 : Int32) = v2 := by rw [hn5]; try decide
    have hd281_64 : (0 : Int32) < v2 := by rw [hn5]; try decide
    obtain ⟨cl65, Ar65, qq65, S65, M65, H65, G65⟩ := id VR61
    have hin65 : ¬ ((0 : Int32) < 0 ∨ cl65.slots.size ≤ ((0 : Int32)).toNatClampNeg) := inb_of S65 ⟨by decide, by decide⟩
    have hat65 : cl65.slots[((0 : Int32)).toNatClampNeg]? = some (.long (own_X q0 q1)) := H65 0 (by rw [S65]; decide)
    have hd291_66 : (own_X q0 q1) = v18 := by simp only [ev10, ev12, ev14, ev16, ev18, ev20, ev22, ev24, ev26, ev28, xe0, xe1, xe2, own_x1, own_x2, own_n1, own_n2]
    have hd309_67 : (1 : Int32) < v2 := by rw [hn5]; try decide
    obtain ⟨cl68, Ar68, qq68, S68, M68, H68, G68⟩ := id VR61
    have hin68 : ¬ ((1 : Int32) < 0 ∨ cl68.slots.size ≤ ((1 : Int32)).toNatClampNeg) := inb_of S68 ⟨by decide, by decide⟩
    have hat68 : cl68.slots[((1 : Int32)).toNatClampNeg]? = some (.long (own_N q0 q1)) := H68 1 (by rw [S68]; decide)
    have hd319_69 : (own_N q0 q1) = v26 := by simp only [ev10, ev12, ev14, ev16, ev18, ev20, ev22, ev24, ev26, ev28, xe0, xe1, xe2, own_x1, own_x2, own_n1, own_n2]
    have hd337_70 : ¬ ((2 : Int32) < v2) := by rw [hn5]; try decide
    have hd365_71 : ¬ ((3 : Int32) < v2) := by rw [hn5]; try decide
    obtain ⟨fs, hr, hrun, hended, hW, hsame⟩ := X61.leave (v := some (.int (1 : Int32))) (fun h => by rw [Bd.returns] at h; cases h)
    refine ⟨_, _, ?_, hrun, hended, _, _, rfl, ?_, ⟨_, rfl⟩, hW, hsame.mono (by decide) (by decide)⟩
    · refine XS.iload X27.here hx rfl (hb hby at_151) rfl ?_
      show Steps p.tables e below (T27.setTop (mkF m 153 #[.val (.long q0), .second, .val (.long q1), .second, .val (.long q2), .second, .val (.long q3), .second, .val (.int p4), .val (.int v2), .val (.long (-9223372036854775808 : Int64)), .second, .val (.long q0), .second, .val (.long v4), .second, .val (.long v6), .second, .val (.long v8), .second, .val (.long v10), .second, .val (.long v12), .second, .val (.long v14), .second, .val (.long v16), .second, .val (.long v18), .second, .val (.long v20), .second, .val (.long v22), .second, .val (.long v24), .second, .val (.long v26), .second, .val (.long v28), .second, .unset, .unset] [(.int v2)])) _
      refine XS.ifYes X27.here hx rfl (pc0 := 153) (pc' := 164) rfl (hb hby at_153) rfl ((if0 _ _).trans (feq hd153_53).2) (by decide) (by decide) ?_
      refine XS.iload X27.here hx rfl (hb hby at_164) rfl ?_
      refine XS.iconst X27.here hx rfl (hb hby at_166) ?_
      show Steps p.tables e below (T27.setTop (mkF m 167 #[.val (.long q0), .second, .val (.long q1), .second, .val (.long q2), .second, .val (.long q3), .second, .val (.int p4), .val (.int v2), .val (.long (-9223372036854775808 : Int64)), .second, .val (.long q0), .second, .val (.long v4), .second, .val (.long v6), .second, .val (.long v8), .second, .val (.long v10), .second, .val (.long v12), .second, .val (.long v14), .second, .val (.long v16), .second, .val (.long v18), .second, .val (.long v20), .second, .val (.long v22), .second, .val (.long v24), .second, .val (.long v26), .second, .val (.long v28), .second, .unset, .unset] [(.int (1 : Int32)), (.int v2)])) _
      refine XS.icmpYes X27.here hx rfl (pc0 := 167) (pc' := 182) rfl (hb hby at_167) rfl (feq hd167_54).2 (by decide) (by decide) ?_
      show Steps p.tables e below (T27.setTop (mkF m 182 #[.val (.long q0), .second, .val (.long q1), .second, .val (.long q2), .second, .val (.long q3), .second, .val (.int p4), .val (.int v2), .val (.long (-9223372036854775808 : Int64)), .second, .val (.long q0), .second, .val (.long v4), .second, .val (.long v6), .second, .val (.long v8), .second, .val (.long v10), .second, .val (.long v12), .second, .val (.long v14), .second, .val (.long v16), .second, .val (.long v18), .second, .val (.long v20), .second, .val (.long v22), .second, .val (.long v24), .second, .val (.long v26), .second, .val (.long v28), .second, .unset, .unset] [])) _
      refine XS.iload X27.here hx rfl (hb hby at_182) rfl ?_
      refine XS.iconst X27.here hx rfl (hb hby at_184) ?_
      show Steps p.tables e below (T27.setTop (mkF m 185 #[.val (.long q0), .second, .val (.long q1), .second, .val (.long q2), .second, .val (.long q3), .second, .val (.int p4), .val (.int v2), .val (.long (-9223372036854775808 : Int64)), .second, .val (.long q0), .second, .val (.long v4), .second, .val (.long v6), .second, .val (.long v8), .second, .val (.long v10), .second, .val (.long v12), .second, .val (.long v14), .second, .val (.long v16), .second, .val (.long v18), .second, .val (.long v20), .second, .val (.long v22), .second, .val (.long v24), .second, .val (.long v26), .second, .val (.long v28), .second, .unset, .unset] [(.int (2 : Int32)), (.int v2)])) _
      refine XS.icmpNo X27.here hx rfl (hb hby at_185) rfl (teq hd185_55).2 ?_
      refine XS.iconst X27.here hx rfl (hb hby at_188) ?_
      refine st56 _ ?_
      show Steps p.tables e below (T56.setTop (mkF m 191 #[.val (.long q0), .second, .val (.long q1), .second, .val (.long q2), .second, .val (.long q3), .second, .val (.int p4), .val (.int v2), .val (.long (-9223372036854775808 : Int64)), .second, .val (.long q0), .second, .val (.long v4), .second, .val (.long v6), .second, .val (.long v8), .second, .val (.long v10), .second, .val (.long v12), .second, .val (.long v14), .second, .val (.long v16), .second, .val (.long v18), .second, .val (.long v20), .second, .val (.long v22), .second, .val (.long v24), .second, .val (.long v26), .second, .val (.long v28), .second, .unset, .unset] [(.ref b56)])) _
      refine XS.dup X56.here hx rfl (hb hby at_191) rfl rfl ?_
      refine XS.iconst X56.here hx rfl (hb hby at_192) ?_
      refine XS.lloadN X56.here hx rfl (hb hby at_193) rfl ?_
      refine st58 _ ?_
      show Steps p.tables e below (T58.setTop (mkF m 195 #[.val (.long q0), .second, .val (.long q1), .second, .val (.long q2), .second, .val (.long q3), .second, .val (.int p4), .val (.int v2), .val (.long (-9223372036854775808 : Int64)), .second, .val (.long q0), .second, .val (.long v4), .second, .val (.long v6), .second, .val (.long v8), .second, .val (.long v10), .second, .val (.long v12), .second, .val (.long v14), .second, .val (.long v16), .second, .val (.long v18), .second, .val (.long v20), .second, .val (.long v22), .second, .val (.long v24), .second, .val (.long v26), .second, .val (.long v28), .second, .unset, .unset] [(.ref b56)])) _
      refine XS.dup X58.here hx rfl (hb hby at_195) rfl rfl ?_
      refine XS.iconst X58.here hx rfl (hb hby at_196) ?_
      refine XS.lloadN X58.here hx rfl (hb hby at_197) rfl ?_
      refine st60 _ ?_
      show Steps p.tables e below (T60.setTop (mkF m 199 #[.val (.long q0), .second, .val (.long q1), .second, .val (.long q2), .second, .val (.long q3), .second, .val (.int p4), .val (.int v2), .val (.long (-9223372036854775808 : Int64)), .second, .val (.long q0), .second, .val (.long v4), .second, .val (.long v6), .second, .val (.long v8), .second, .val (.long v10), .second, .val (.long v12), .second, .val (.long v14), .second, .val (.long v16), .second, .val (.long v18), .second, .val (.long v20), .second, .val (.long v22), .second, .val (.long v24), .second, .val (.long v26), .second, .val (.long v28), .second, .unset, .unset] [(.ref b56)])) _
      refine XS.astore X60.here hx rfl (hb hby at_199) rfl rfl (l' := #[.val (.long q0), .second, .val (.long q1), .second, .val (.long q2), .second, .val (.long q3), .second, .val (.int p4), .val (.int v2), .val (.long (-9223372036854775808 : Int64)), .second, .val (.long q0), .second, .val (.long v4), .second, .val (.long v6), .second, .val (.long v8), .second, .val (.long v10), .second, .val (.long v12), .second, .val (.long v14), .second, .val (.long v16), .second, .val (.long v18), .second, .val (.long v20), .second, .val (.long v22), .second, .val (.long v24), .second, .val (.long v26), .second, .val (.long v28), .second, .val (.ref b56), .unset]) rfl ?_
      show Steps p.tables e below (T60.setTop (mkF m 201 #[.val (.long q0), .second, .val (.long q1), .second, .val (.long q2), .second, .val (.long q3), .second, .val (.int p4), .val (.int v2), .val (.long (-9223372036854775808 : Int64)), .second, .val (.long q0), .second, .val (.long v4), .second, .val (.long v6), .second, .val (.long v8), .second, .val (.long v10), .second, .val (.long v12), .second, .val (.long v14), .second, .val (.long v16), .second, .val (.long v18), .second, .val (.long v20), .second, .val (.long v22), .second, .val (.long v24), .second, .val (.long v26), .second, .val (.long v28), .second, .val (.ref b56), .unset] [])) _
      refine XS.goto X60.here hx rfl (pc0 := 201) (pc' := 254) rfl (hb hby at_201) (by decide) (by decide) ?_
      refine XS.aload X60.here hx rfl (hb hby at_254) rfl rfl ?_
      refine st61 _ ?_
      refine XS.aload X61.here hx rfl (hb hby at_259) rfl rfl ?_
      show Steps p.tables e below (T61.setTop (mkF m 261 #[.val (.long q0), .second, .val (.long q1), .second, .val (.long q2), .second, .val (.long q3), .second, .val (.int p4), .val (.int v2), .val (.long (-9223372036854775808 : Int64)), .second, .val (.long q0), .second, .val (.long v4), .second, .val (.long v6), .second, .val (.long v8), .second, .val (.long v10), .second, .val (.long v12), .second, .val (.long v14), .second, .val (.long v16), .second, .val (.long v18), .second, .val (.long v20), .second, .val (.long v22), .second, .val (.long v24), .second, .val (.long v26), .second, .val (.long v28), .second, .val (.ref b56), .unset] [(.ref b56)])) _
      refine X61.arraylength hx Ar62.1 (State.isArrayOf_alike hZ.alike Ar62.2.1) (g := (mkF m 261 #[.val (.long q0), .second, .val (.long q1), .second, .val (.long q2), .second, .val (.long q3), .second, .val (.int p4), .val (.int v2), .val (.long (-9223372036854775808 : Int64)), .second, .val (.long q0), .second, .val (.long v4), .second, .val (.long v6), .second, .val (.long v8), .second, .val (.long v10), .second, .val (.long v12), .second, .val (.long v14), .second, .val (.long v16), .second, .val (.long v18), .second, .val (.long v20), .second, .val (.long v22), .second, .val (.long v24), .second, .val (.long v26), .second, .val (.long v28), .second, .val (.ref b56), .unset] [(.ref b56)])) rfl rfl (hb hby at_261) _ ?_
      rw [len_of S62 M62]
      refine XS.iload X61.here hx rfl (hb hby at_262) rfl ?_
      show Steps p.tables e below (T61.setTop (mkF m 264 #[.val (.long q0), .second, .val (.long q1), .second, .val (.long q2), .second, .val (.long q3), .second, .val (.int p4), .val (.int v2), .val (.long (-9223372036854775808 : Int64)), .second, .val (.long q0), .second, .val (.long v4), .second, .val (.long v6), .second, .val (.long v8), .second, .val (.long v10), .second, .val (.long v12), .second, .val (.long v14), .second, .val (.long v16), .second, .val (.long v18), .second, .val (.long v20), .second, .val (.long v22), .second, .val (.long v24), .second, .val (.long v26), .second, .val (.long v28), .second, .val (.ref b56), .unset] [(.int v2), (.int (2 : Int32))])) _
      refine XS.icmpNo X61.here hx rfl (hb hby at_264) rfl (teq hd264_63).2 ?_
      refine XS.iconst X61.here hx rfl (hb hby at_267) ?_
      show Steps p.tables e below (T61.setTop (mkF m 268 #[.val (.long q0), .second, .val (.long q1), .second, .val (.long q2), .second, .val (.long q3), .second, .val (.int p4), .val (.int v2), .val (.long (-9223372036854775808 : Int64)), .second, .val (.long q0), .second, .val (.long v4), .second, .val (.long v6), .second, .val (.long v8), .second, .val (.long v10), .second, .val (.long v12), .second, .val (.long v14), .second, .val (.long v16), .second, .val (.long v18), .second, .val (.long v20), .second, .val (.long v22), .second, .val (.long v24), .second, .val (.long v26), .second, .val (.long v28), .second, .val (.ref b56), .unset] [(.int (1 : Int32))])) _
      refine XS.goto X61.here hx rfl (pc0 := 268) (pc' := 272) rfl (hb hby at_268) (by decide) (by decide) ?_
      refine XS.istore X61.here hx rfl (hb hby at_272) rfl (l' := #[.val (.long q0), .second, .val (.long q1), .second, .val (.long q2), .second, .val (.long q3), .second, .val (.int p4), .val (.int v2), .val (.long (-9223372036854775808 : Int64)), .second, .val (.long q0), .second, .val (.long v4), .second, .val (.long v6), .second, .val (.long v8), .second, .val (.long v10), .second, .val (.long v12), .second, .val (.long v14), .second, .val (.long v16), .second, .val (.long v18), .second, .val (.long v20), .second, .val (.long v22), .second, .val (.long v24), .second, .val (.long v26), .second, .val (.long v28), .second, .val (.ref b56), .val (.int (1 : Int32))]) rfl ?_
      show Steps p.tables e below (T61.setTop (mkF m 274 #[.val (.long q0), .second, .val (.long q1), .second, .val (.long q2), .second, .val (.long q3), .second, .val (.int p4), .val (.int v2), .val (.long (-9223372036854775808 : Int64)), .second, .val (.long q0), .second, .val (.long v4), .second, .val (.long v6), .second, .val (.long v8), .second, .val (.long v10), .second, .val (.long v12), .second, .val (.long v14), .second, .val (.long v16), .second, .val (.long v18), .second, .val (.long v20), .second, .val (.long v22), .second, .val (.long v24), .second, .val (.long v26), .second, .val (.long v28), .second, .val (.ref b56), .val (.int (1 : Int32))] [])) _
      refine XS.iload X61.here hx rfl (hb hby at_274) rfl ?_
      show Steps p.tables e below (T61.setTop (mkF m 276 #[.val (.long q0), .second, .val (.long q1), .second, .val (.long q2), .second, .val (.long q3), .second, .val (.int p4), .val (.int v2), .val (.long (-9223372036854775808 : Int64)), .second, .val (.long q0), .second, .val (.long v4), .second, .val (.long v6), .second, .val (.long v8), .second, .val (.long v10), .second, .val (.long v12), .second, .val (.long v14), .second, .val (.long v16), .second, .val (.long v18), .second, .val (.long v20), .second, .val (.long v22), .second, .val (.long v24), .second, .val (.long v26), .second, .val (.long v28), .second, .val (.ref b56), .val (.int (1 : Int32))] [(.int (1 : Int32))])) _
      refine XS.ifNo X61.here hx rfl (hb hby at_276) rfl ((if0 _ _).trans (feq (by decide : ¬ ((1 : Int32) = (0 : Int32)))).1) ?_
      refine XS.iload X61.here hx rfl (hb hby at_279) rfl ?_
      show Steps p.tables e below (T61.setTop (mkF m 281 #[.val (.long q0), .second, .val (.long q1), .second, .val (.long q2), .second, .val (.long q3), .second, .val (.int p4), .val (.int v2), .val (.long (-9223372036854775808 : Int64)), .second, .val (.long q0), .second, .val (.long v4), .second, .val (.long v6), .second, .val (.long v8), .second, .val (.long v10), .second, .val (.long v12), .second, .val (.long v14), .second, .val (.long v16), .second, .val (.long v18), .second, .val (.long v20), .second, .val (.long v22), .second, .val (.long v24), .second, .val (.long v26), .second, .val (.long v28), .second, .val (.ref b56), .val (.int (1 : Int32))] [(.int v2)])) _
      refine XS.ifNo X61.here hx rfl (hb hby at_281) rfl ((if0 _ _).trans (tlt hd281_64).2.2.2) ?_
      refine XS.aload X61.here hx rfl (hb hby at_284) rfl rfl ?_
      refine XS.iconst X61.here hx rfl (hb hby at_286) ?_
      show Steps p.tables e below (T61.setTop (mkF m 287 #[.val (.long q0), .second, .val (.long q1), .second, .val (.long q2), .second, .val (.long q3), .second, .val (.int p4), .val (.int v2), .val (.long (-9223372036854775808 : Int64)), .second, .val (.long q0), .second, .val (.long v4), .second, .val (.long v6), .second, .val (.long v8), .second, .val (.long v10), .second, .val (.long v12), .second, .val (.long v14), .second, .val (.long v16), .second, .val (.long v18), .second, .val (.long v20), .second, .val (.long v22), .second, .val (.long v24), .second, .val (.long v26), .second, .val (.long v28), .second, .val (.ref b56), .val (.int (1 : Int32))] [(.int (0 : Int32)), (.ref b56)])) _
      refine X61.laload hx (j := (0 : Int32)) (v := (.long (own_X q0 q1))) Ar65.1 (State.isArrayOf_alike hZ.alike Ar65.2.1) Ar65.2.2 hin65 hat65 (g := (mkF m 287 #[.val (.long q0), .second, .val (.long q1), .second, .val (.long q2), .second, .val (.long q3), .second, .val (.int p4), .val (.int v2), .val (.long (-9223372036854775808 : Int64)), .second, .val (.long q0), .second, .val (.long v4), .second, .val (.long v6), .second, .val (.long v8), .second, .val (.long v10), .second, .val (.long v12), .second, .val (.long v14), .second, .val (.long v16), .second, .val (.long v18), .second, .val (.long v20), .second, .val (.long v22), .second, .val (.long v24), .second, .val (.long v26), .second, .val (.long v28), .second, .val (.ref b56), .val (.int (1 : Int32))] [(.int (0 : Int32)), (.ref b56)])) rfl rfl (hb hby at_287) _ ?_
      refine XS.lload X61.here hx rfl (hb hby at_288) rfl ?_
      refine XS.lcmp X61.here hx rfl (hb hby at_290) rfl ?_
      show Steps p.tables e below (T61.setTop (mkF m 291 #[.val (.long q0), .second, .val (.long q1), .second, .val (.long q2), .second, .val (.long q3), .second, .val (.int p4), .val (.int v2), .val (.long (-9223372036854775808 : Int64)), .second, .val (.long q0), .second, .val (.long v4), .second, .val (.long v6), .second, .val (.long v8), .second, .val (.long v10), .second, .val (.long v12), .second, .val (.long v14), .second, .val (.long v16), .second, .val (.long v18), .second, .val (.long v20), .second, .val (.long v22), .second, .val (.long v24), .second, .val (.long v26), .second, .val (.long v28), .second, .val (.ref b56), .val (.int (1 : Int32))] [(.int (lcmpW (own_X q0 q1) v18))])) _
      refine XS.ifNo X61.here hx rfl (hb hby at_291) rfl ((if0 _ _).trans (teq ((lw_eq (own_X q0 q1) v18).mpr hd291_66)).2) ?_
      refine XS.iconst X61.here hx rfl (hb hby at_294) ?_
      show Steps p.tables e below (T61.setTop (mkF m 295 #[.val (.long q0), .second, .val (.long q1), .second, .val (.long q2), .second, .val (.long q3), .second, .val (.int p4), .val (.int v2), .val (.long (-9223372036854775808 : Int64)), .second, .val (.long q0), .second, .val (.long v4), .second, .val (.long v6), .second, .val (.long v8), .second, .val (.long v10), .second, .val (.long v12), .second, .val (.long v14), .second, .val (.long v16), .second, .val (.long v18), .second, .val (.long v20), .second, .val (.long v22), .second, .val (.long v24), .second, .val (.long v26), .second, .val (.long v28), .second, .val (.ref b56), .val (.int (1 : Int32))] [(.int (1 : Int32))])) _
      refine XS.goto X61.here hx rfl (pc0 := 295) (pc' := 299) rfl (hb hby at_295) (by decide) (by decide) ?_
      show Steps p.tables e below (T61.setTop (mkF m 299 #[.val (.long q0), .second, .val (.long q1), .second, .val (.long q2), .second, .val (.long q3), .second, .val (.int p4), .val (.int v2), .val (.long (-9223372036854775808 : Int64)), .second, .val (.long q0), .second, .val (.long v4), .second, .val (.long v6), .second, .val (.long v8), .second, .val (.long v10), .second, .val (.long v12), .second, .val (.long v14), .second, .val (.long v16), .second, .val (.long v18), .second, .val (.long v20), .second, .val (.long v22), .second, .val (.long v24), .second, .val (.long v26), .second, .val (.long v28), .second, .val (.ref b56), .val (.int (1 : Int32))] [(.int (1 : Int32))])) _
      refine XS.istore X61.here hx rfl (hb hby at_299) rfl (l' := #[.val (.long q0), .second, .val (.long q1), .second, .val (.long q2), .second, .val (.long q3), .second, .val (.int p4), .val (.int v2), .val (.long (-9223372036854775808 : Int64)), .second, .val (.long q0), .second, .val (.long v4), .second, .val (.long v6), .second, .val (.long v8), .second, .val (.long v10), .second, .val (.long v12), .second, .val (.long v14), .second, .val (.long v16), .second, .val (.long v18), .second, .val (.long v20), .second, .val (.long v22), .second, .val (.long v24), .second, .val (.long v26), .second, .val (.long v28), .second, .val (.ref b56), .val (.int (1 : Int32))]) rfl ?_
      refine XS.iload X61.here hx rfl (hb hby at_301) rfl ?_
      show Steps p.tables e below (T61.setTop (mkF m 303 #[.val (.long q0), .second, .val (.long q1), .second, .val (.long q2), .second, .val (.long q3), .second, .val (.int p4), .val (.int v2), .val (.long (-9223372036854775808 : Int64)), .second, .val (.long q0), .second, .val (.long v4), .second, .val (.long v6), .second, .val (.long v8), .second, .val (.long v10), .second, .val (.long v12), .second, .val (.long v14), .second, .val (.long v16), .second, .val (.long v18), .second, .val (.long v20), .second, .val (.long v22), .second, .val (.long v24), .second, .val (.long v26), .second, .val (.long v28), .second, .val (.ref b56), .val (.int (1 : Int32))] [(.int (1 : Int32))])) _
      refine XS.ifNo X61.here hx rfl (hb hby at_303) rfl ((if0 _ _).trans (feq (by decide : ¬ ((1 : Int32) = (0 : Int32)))).1) ?_
      refine XS.iload X61.here hx rfl (hb hby at_306) rfl ?_
      refine XS.iconst X61.here hx rfl (hb hby at_308) ?_
      show Steps p.tables e below (T61.setTop (mkF m 309 #[.val (.long q0), .second, .val (.long q1), .second, .val (.long q2), .second, .val (.long q3), .second, .val (.int p4), .val (.int v2), .val (.long (-9223372036854775808 : Int64)), .second, .val (.long q0), .second, .val (.long v4), .second, .val (.long v6), .second, .val (.long v8), .second, .val (.long v10), .second, .val (.long v12), .second, .val (.long v14), .second, .val (.long v16), .second, .val (.long v18), .second, .val (.long v20), .second, .val (.long v22), .second, .val (.long v24), .second, .val (.long v26), .second, .val (.long v28), .second, .val (.ref b56), .val (.int (1 : Int32))] [(.int (1 : Int32)), (.int v2)])) _
      refine XS.icmpNo X61.here hx rfl (hb hby at_309) rfl (tlt hd309_67).2.2.2 ?_
      show Steps p.tables e below (T61.setTop (mkF m 312 #[.val (.long q0), .second, .val (.long q1), .second, .val (.long q2), .second, .val (.long q3), .second, .val (.int p4), .val (.int v2), .val (.long (-9223372036854775808 : Int64)), .second, .val (.long q0), .second, .val (.long v4), .second, .val (.long v6), .second, .val (.long v8), .second, .val (.long v10), .second, .val (.long v12), .second, .val (.long v14), .second, .val (.long v16), .second, .val (.long v18), .second, .val (.long v20), .second, .val (.long v22), .second, .val (.long v24), .second, .val (.long v26), .second, .val (.long v28), .second, .val (.ref b56), .val (.int (1 : Int32))] [])) _
      refine XS.aload X61.here hx rfl (hb hby at_312) rfl rfl ?_
      refine XS.iconst X61.here hx rfl (hb hby at_314) ?_
      refine X61.laload hx (j := (1 : Int32)) (v := (.long (own_N q0 q1))) Ar68.1 (State.isArrayOf_alike hZ.alike Ar68.2.1) Ar68.2.2 hin68 hat68 (g := (mkF m 315 #[.val (.long q0), .second, .val (.long q1), .second, .val (.long q2), .second, .val (.long q3), .second, .val (.int p4), .val (.int v2), .val (.long (-9223372036854775808 : Int64)), .second, .val (.long q0), .second, .val (.long v4), .second, .val (.long v6), .second, .val (.long v8), .second, .val (.long v10), .second, .val (.long v12), .second, .val (.long v14), .second, .val (.long v16), .second, .val (.long v18), .second, .val (.long v20), .second, .val (.long v22), .second, .val (.long v24), .second, .val (.long v26), .second, .val (.long v28), .second, .val (.ref b56), .val (.int (1 : Int32))] [(.int (1 : Int32)), (.ref b56)])) rfl rfl (hb hby at_315) _ ?_
      refine XS.lload X61.here hx rfl (hb hby at_316) rfl ?_
      show Steps p.tables e below (T61.setTop (mkF m 318 #[.val (.long q0), .second, .val (.long q1), .second, .val (.long q2), .second, .val (.long q3), .second, .val (.int p4), .val (.int v2), .val (.long (-9223372036854775808 : Int64)), .second, .val (.long q0), .second, .val (.long v4), .second, .val (.long v6), .second, .val (.long v8), .second, .val (.long v10), .second, .val (.long v12), .second, .val (.long v14), .second, .val (.long v16), .second, .val (.long v18), .second, .val (.long v20), .second, .val (.long v22), .second, .val (.long v24), .second, .val (.long v26), .second, .val (.long v28), .second, .val (.ref b56), .val (.int (1 : Int32))] [(.long v26), (.long (own_N q0 q1))])) _
      refine XS.lcmp X61.here hx rfl (hb hby at_318) rfl ?_
      show Steps p.tables e below (T61.setTop (mkF m 319 #[.val (.long q0), .second, .val (.long q1), .second, .val (.long q2), .second, .val (.long q3), .second, .val (.int p4), .val (.int v2), .val (.long (-9223372036854775808 : Int64)), .second, .val (.long q0), .second, .val (.long v4), .second, .val (.long v6), .second, .val (.long v8), .second, .val (.long v10), .second, .val (.long v12), .second, .val (.long v14), .second, .val (.long v16), .second, .val (.long v18), .second, .val (.long v20), .second, .val (.long v22), .second, .val (.long v24), .second, .val (.long v26), .second, .val (.long v28), .second, .val (.ref b56), .val (.int (1 : Int32))] [(.int (lcmpW (own_N q0 q1) v26))])) _
      refine XS.ifNo X61.here hx rfl (hb hby at_319) rfl ((if0 _ _).trans (teq ((lw_eq (own_N q0 q1) v26).mpr hd319_69)).2) ?_
      refine XS.iconst X61.here hx rfl (hb hby at_322) ?_
      show Steps p.tables e below (T61.setTop (mkF m 323 #[.val (.long q0), .second, .val (.long q1), .second, .val (.long q2), .second, .val (.long q3), .second, .val (.int p4), .val (.int v2), .val (.long (-9223372036854775808 : Int64)), .second, .val (.long q0), .second, .val (.long v4), .second, .val (.long v6), .second, .val (.long v8), .second, .val (.long v10), .second, .val (.long v12), .second, .val (.long v14), .second, .val (.long v16), .second, .val (.long v18), .second, .val (.long v20), .second, .val (.long v22), .second, .val (.long v24), .second, .val (.long v26), .second, .val (.long v28), .second, .val (.ref b56), .val (.int (1 : Int32))] [(.int (1 : Int32))])) _
      refine XS.goto X61.here hx rfl (pc0 := 323) (pc' := 327) rfl (hb hby at_323) (by decide) (by decide) ?_
      refine XS.istore X61.here hx rfl (hb hby at_327) rfl (l' := #[.val (.long q0), .second, .val (.long q1), .second, .val (.long q2), .second, .val (.long q3), .second, .val (.int p4), .val (.int v2), .val (.long (-9223372036854775808 : Int64)), .second, .val (.long q0), .second, .val (.long v4), .second, .val (.long v6), .second, .val (.long v8), .second, .val (.long v10), .second, .val (.long v12), .second, .val (.long v14), .second, .val (.long v16), .second, .val (.long v18), .second, .val (.long v20), .second, .val (.long v22), .second, .val (.long v24), .second, .val (.long v26), .second, .val (.long v28), .second, .val (.ref b56), .val (.int (1 : Int32))]) rfl ?_
      refine XS.iload X61.here hx rfl (hb hby at_329) rfl ?_
      show Steps p.tables e below (T61.setTop (mkF m 331 #[.val (.long q0), .second, .val (.long q1), .second, .val (.long q2), .second, .val (.long q3), .second, .val (.int p4), .val (.int v2), .val (.long (-9223372036854775808 : Int64)), .second, .val (.long q0), .second, .val (.long v4), .second, .val (.long v6), .second, .val (.long v8), .second, .val (.long v10), .second, .val (.long v12), .second, .val (.long v14), .second, .val (.long v16), .second, .val (.long v18), .second, .val (.long v20), .second, .val (.long v22), .second, .val (.long v24), .second, .val (.long v26), .second, .val (.long v28), .second, .val (.ref b56), .val (.int (1 : Int32))] [(.int (1 : Int32))])) _
      refine XS.ifNo X61.here hx rfl (hb hby at_331) rfl ((if0 _ _).trans (feq (by decide : ¬ ((1 : Int32) = (0 : Int32)))).1) ?_
      show Steps p.tables e below (T61.setTop (mkF m 334 #[.val (.long q0), .second, .val (.long q1), .second, .val (.long q2), .second, .val (.long q3), .second, .val (.int p4), .val (.int v2), .val (.long (-9223372036854775808 : Int64)), .second, .val (.long q0), .second, .val (.long v4), .second, .val (.long v6), .second, .val (.long v8), .second, .val (.long v10), .second, .val (.long v12), .second, .val (.long v14), .second, .val (.long v16), .second, .val (.long v18), .second, .val (.long v20), .second, .val (.long v22), .second, .val (.long v24), .second, .val (.long v26), .second, .val (.long v28), .second, .val (.ref b56), .val (.int (1 : Int32))] [])) _
      refine XS.iload X61.here hx rfl (hb hby at_334) rfl ?_
      refine XS.iconst X61.here hx rfl (hb hby at_336) ?_
      show Steps p.tables e below (T61.setTop (mkF m 337 #[.val (.long q0), .second, .val (.long q1), .second, .val (.long q2), .second, .val (.long q3), .second, .val (.int p4), .val (.int v2), .val (.long (-9223372036854775808 : Int64)), .second, .val (.long q0), .second, .val (.long v4), .second, .val (.long v6), .second, .val (.long v8), .second, .val (.long v10), .second, .val (.long v12), .second, .val (.long v14), .second, .val (.long v16), .second, .val (.long v18), .second, .val (.long v20), .second, .val (.long v22), .second, .val (.long v24), .second, .val (.long v26), .second, .val (.long v28), .second, .val (.ref b56), .val (.int (1 : Int32))] [(.int (2 : Int32)), (.int v2)])) _
      refine XS.icmpYes X61.here hx rfl (pc0 := 337) (pc' := 357) rfl (hb hby at_337) rfl (flt hd337_70).2.2.2 (by decide) (by decide) ?_
      refine XS.iload X61.here hx rfl (hb hby at_357) rfl ?_
      show Steps p.tables e below (T61.setTop (mkF m 359 #[.val (.long q0), .second, .val (.long q1), .second, .val (.long q2), .second, .val (.long q3), .second, .val (.int p4), .val (.int v2), .val (.long (-9223372036854775808 : Int64)), .second, .val (.long q0), .second, .val (.long v4), .second, .val (.long v6), .second, .val (.long v8), .second, .val (.long v10), .second, .val (.long v12), .second, .val (.long v14), .second, .val (.long v16), .second, .val (.long v18), .second, .val (.long v20), .second, .val (.long v22), .second, .val (.long v24), .second, .val (.long v26), .second, .val (.long v28), .second, .val (.ref b56), .val (.int (1 : Int32))] [(.int (1 : Int32))])) _
      refine XS.ifNo X61.here hx rfl (hb hby at_359) rfl ((if0 _ _).trans (feq (by decide : ¬ ((1 : Int32) = (0 : Int32)))).1) ?_
      refine XS.iload X61.here hx rfl (hb hby at_362) rfl ?_
      show Steps p.tables e below (T61.setTop (mkF m 364 #[.val (.long q0), .second, .val (.long q1), .second, .val (.long q2), .second, .val (.long q3), .second, .val (.int p4), .val (.int v2), .val (.long (-9223372036854775808 : Int64)), .second, .val (.long q0), .second, .val (.long v4), .second, .val (.long v6), .second, .val (.long v8), .second, .val (.long v10), .second, .val (.long v12), .second, .val (.long v14), .second, .val (.long v16), .second, .val (.long v18), .second, .val (.long v20), .second, .val (.long v22), .second, .val (.long v24), .second, .val (.long v26), .second, .val (.long v28), .second, .val (.ref b56), .val (.int (1 : Int32))] [(.int v2)])) _
      refine XS.iconst X61.here hx rfl (hb hby at_364) ?_
      show Steps p.tables e below (T61.setTop (mkF m 365 #[.val (.long q0), .second, .val (.long q1), .second, .val (.long q2), .second, .val (.long q3), .second, .val (.int p4), .val (.int v2), .val (.long (-9223372036854775808 : Int64)), .second, .val (.long q0), .second, .val (.long v4), .second, .val (.long v6), .second, .val (.long v8), .second, .val (.long v10), .second, .val (.long v12), .second, .val (.long v14), .second, .val (.long v16), .second, .val (.long v18), .second, .val (.long v20), .second, .val (.long v22), .second, .val (.long v24), .second, .val (.long v26), .second, .val (.long v28), .second, .val (.ref b56), .val (.int (1 : Int32))] [(.int (3 : Int32)), (.int v2)])) _
      refine XS.icmpYes X61.here hx rfl (pc0 := 365) (pc' := 385) rfl (hb hby at_365) rfl (flt hd365_71).2.2.2 (by decide) (by decide) ?_
      refine XS.iload X61.here hx rfl (hb hby at_385) rfl ?_
      show Steps p.tables e below (T61.setTop (mkF m 387 #[.val (.long q0), .second, .val (.long q1), .second, .val (.long q2), .second, .val (.long q3), .second, .val (.int p4), .val (.int v2), .val (.long (-9223372036854775808 : Int64)), .second, .val (.long q0), .second, .val (.long v4), .second, .val (.long v6), .second, .val (.long v8), .second, .val (.long v10), .second, .val (.long v12), .second, .val (.long v14), .second, .val (.long v16), .second, .val (.long v18), .second, .val (.long v20), .second, .val (.long v22), .second, .val (.long v24), .second, .val (.long v26), .second, .val (.long v28), .second, .val (.ref b56), .val (.int (1 : Int32))] [(.int (1 : Int32))])) _
      exact retN X61 hx (t := .boolean) Bd.returns (by simp) (hb hby at_387) hr
    · show Q0 Z q0 q1 q2 q3 p4  h0 n0 _ T61.heap _
      exact ⟨rfl, N61⟩
  · skip
    have xe0 := ev4.trans (if_pos (by rw [hn5]; decide))
    have xe1 := ev6.trans (if_pos (by rw [hn5]; decide))
    have xe2 := ev8.trans (if_neg (by rw [hn5]; decide))
    have hd153_72 : ¬ (v2 = (0 : Int32)) := by rw [hn5]; try decide
    have hd167_73 : ¬ (v2 = (1 : Int32)) := by rw [hn5]; try decide
    have hd185_74 : ¬ (v2 = (2 : Int32)) := by rw [hn5]; try decide
    have hd207_75 : v2 = (3 : Int32) := by rw [hn5]; try decide
    obtain ⟨T76, h76, k76, X76, e76, E76, A76, st76⟩ := newP X27 hx hZ (hw _ (List.mem_of_getElem? (i := 9) rfl)) e27 (g := (mkF m 211 #[.val (.long q0), .second, .val (.long q1), .second, .val (.long q2), .second, .val (.long q3), .second, .val (.int p4), .val (.int v2), .val (.long (-9223372036854775808 : Int64)), .second, .val (.long q0), .second, .val (.long v4), .second, .val (.long v6), .second, .val (.long v8), .second, .val (.long v10), .second, .val (.long v12), .second, .val (.long v14), .second, .val (.long v16), .second, .val (.long v18), .second, .val (.long v20), .second, .val (.long v22), .second, .val (.long v24), .second, .val (.long v26), .second, .val (.long v28), .second, .unset, .unset] [(.int (3 : Int32))])) rfl (hb hby at_211) rfl (by decide) (cap := 3) (by decide) (by decide) (by decide) (by decide)
    obtain ⟨b76, g76⟩ : ∃ z, z = h0.size := ⟨_, rfl⟩
    rw [← g76] at A76 st76
    have gnb76 : n0 ≤ b76 := Nat.le_trans Z0 (Nat.le_of_eq g76.symm)
    have Z76 : n0 ≤ h76.size := Nat.le_trans Z0 E76.1
    have V76 : Arv Z h76 b76 k76 .long (3 : Int32) [(.long (0 : Int64)), (.long (0 : Int64)), (.long (0 : Int64))] (.long (0 : Int64)) := (Arv.new A76 (by decide)).pad (pad_rep [] (.long (0 : Int64)) 3)
    obtain ⟨cl77, Ar77, qq77, S77, M77, H77, G77⟩ := id V76
    have hin77 : ¬ ((0 : Int32) < 0 ∨ cl77.slots.size ≤ ((0 : Int32)).toNatClampNeg) := inb_of S77 ⟨by decide, by decide⟩
    obtain ⟨T78, h78, X78, e78, W78, st78⟩ := stJ X76 hx hZ e76 Ar77 (j := (0 : Int32)) hin77 (g := (mkF m 216 #[.val (.long q0), .second, .val (.long q1), .second, .val (.long q2), .second, .val (.long q3), .second, .val (.int p4), .val (.int v2), .val (.long (-9223372036854775808 : Int64)), .second, .val (.long q0), .second, .val (.long v4), .second, .val (.long v6), .second, .val (.long v8), .second, .val (.long v10), .second, .val (.long v12), .second, .val (.long v14), .second, .val (.long v16), .second, .val (.long v18), .second, .val (.long v20), .second, .val (.long v22), .second, .val (.long v24), .second, .val (.long v26), .second, .val (.long v28), .second, .unset, .unset] [(.long q0), (.int (0 : Int32)), (.ref b76), (.ref b76)])) rfl rfl (hb hby at_216)
    have V78 : Arv Z h78 b76 k76 .long (3 : Int32) [(.long q0), (.long (0 : Int64)), (.long (0 : Int64))] _ := Arv.set Ar77 qq77 S77 M77 H77 G77 rfl W78 0 rfl (Nat.le_of_ble_eq_true rfl)
    have N78 := Fr.snoc X78 N27 gnb76
    have Z78 : n0 ≤ h78.size := Nat.le_trans Z76 (Nat.le_of_eq W78.size.symm)
    obtain ⟨cl79, Ar79, qq79, S79, M79, H79, G79⟩ := id V78
    have hin79 : ¬ ((1 : Int32) < 0 ∨ cl79.slots.size ≤ ((1 : Int32)).toNatClampNeg) := inb_of S79 ⟨by decide, by decide⟩
    obtain ⟨T80, h80, X80, e80, W80, st80⟩ := stJ X78 hx hZ e78 Ar79 (j := (1 : Int32)) hin79 (g := (mkF m 220 #[.val (.long q0), .second, .val (.long q1), .second, .val (.long q2), .second, .val (.long q3), .second, .val (.int p4), .val (.int v2), .val (.long (-9223372036854775808 : Int64)), .second, .val (.long q0), .second, .val (.long v4), .second, .val (.long v6), .second, .val (.long v8), .second, .val (.long v10), .second, .val (.long v12), .second, .val (.long v14), .second, .val (.long v16), .second, .val (.long v18), .second, .val (.long v20), .second, .val (.long v22), .second, .val (.long v24), .second, .val (.long v26), .second, .val (.long v28), .second, .unset, .unset] [(.long q1), (.int (1 : Int32)), (.ref b76), (.ref b76)])) rfl rfl (hb hby at_220)
    have V80 : Arv Z h80 b76 k76 .long (3 : Int32) [(.long q0), (.long q1), (.long (0 : Int64))] _ := Arv.set Ar79 qq79 S79 M79 H79 G79 rfl W80 1 rfl (Nat.le_of_ble_eq_true rfl)
    have N80 := Fr.snoc X80 N78 gnb76
    have Z80 : n0 ≤ h80.size := Nat.le_trans Z78 (Nat.le_of_eq W80.size.symm)
    obtain ⟨cl81, Ar81, qq81, S81, M81, H81, G81⟩ := id V80
    have hin81 : ¬ ((2 : Int32) < 0 ∨ cl81.slots.size ≤ ((2 : Int32)).toNatClampNeg) := inb_of S81 ⟨by decide, by decide⟩
    obtain ⟨T82, h82, X82, e82, W82, st82⟩ := stJ X80 hx hZ e80 Ar81 (j := (2 : Int32)) hin81 (g := (mkF m 225 #[.val (.long q0), .second, .val (.long q1), .second, .val (.long q2), .second, .val (.long q3), .second, .val (.int p4), .val (.int v2), .val (.long (-9223372036854775808 : Int64)), .second, .val (.long q0), .second, .val (.long v4), .second, .val (.long v6), .second, .val (.long v8), .second, .val (.long v10), .second, .val (.long v12), .second, .val (.long v14), .second, .val (.long v16), .second, .val (.long v18), .second, .val (.long v20), .second, .val (.long v22), .second, .val (.long v24), .second, .val (.long v26), .second, .val (.long v28), .second, .unset, .unset] [(.long q2), (.int (2 : Int32)), (.ref b76), (.ref b76)])) rfl rfl (hb hby at_225)
    have V82 : Arv Z h82 b76 k76 .long (3 : Int32) [(.long q0), (.long q1), (.long q2)] _ := Arv.set Ar81 qq81 S81 M81 H81 G81 rfl W82 2 rfl (Nat.le_of_ble_eq_true rfl)
    have N82 := Fr.snoc X82 N80 gnb76
    have Z82 : n0 ≤ h82.size := Nat.le_trans Z80 (Nat.le_of_eq W82.size.symm)
    obtain ⟨_, _, ⟨T83, L83, k83, n83⟩, -, X83, ⟨Lc83, hQ83, l83, y83, z83⟩, st83⟩ := Jvm.LawKit.callS X82 hx (y := (⟨"com/example/firepick/firepick/TimeTags", "rank", "([J)V"⟩ : MethodName)) hown (mvT hZ (hw _ (List.mem_of_getElem? (i := 10) rfl))) (mvT hZ (hw _ (List.mem_of_getElem? (i := 11) rfl))) (mvT hZ (hw _ (List.mem_of_getElem? (i := 12) rfl))) (mvT hZ (hw _ (List.mem_of_getElem? (i := 13) rfl))) (by decide) (backOf (W := 0) (rm3n3 l Z a0 hw [] b76 k76 _ q0 q1 q2 h82 n0 Z82 V82 gnb76) hZ (hw _ (List.mem_of_getElem? (i := 13) rfl)) (hw _ (List.mem_of_getElem? (i := 12) rfl)) (by decide) (by decide)) (g := (mkF m 256 #[.val (.long q0), .second, .val (.long q1), .second, .val (.long q2), .second, .val (.long q3), .second, .val (.int p4), .val (.int v2), .val (.long (-9223372036854775808 : Int64)), .second, .val (.long q0), .second, .val (.long v4), .second, .val (.long v6), .second, .val (.long v8), .second, .val (.long v10), .second, .val (.long v12), .second, .val (.long v14), .second, .val (.long v16), .second, .val (.long v18), .second, .val (.long v20), .second, .val (.long v22), .second, .val (.long v24), .second, .val (.long v26), .second, .val (.long v28), .second, .val (.ref b76), .unset] [(.ref b76)])) rfl (by rw [hml]; rfl) (argsL := [(.ref b76)]) (rest := []) (lenOf pd_1 rfl) rfl (by show 2 * 0 + _ ≤ _; exact Nat.le_of_eq rfl) (hb hby at_256) (fun _ _ => ⟨rfl, e82, (by decide : 1 + 0 ≤ _), (by decide : 3 + 0 ≤ _)⟩)
    dsimp only [Pt.U, Pt.locs, Pt.cells, Pt.slots] at X83 l83 y83 z83 st83 hQ83
    rw [l83, y83, z83] at X83
    obtain ⟨rfl, N83q, K83q, VR83⟩ := hQ83
    have N83 := Fr.app N82 N83q
    have Z83 : n0 ≤ T83.heap.size := Nat.le_trans Z82 K83q.1
    obtain ⟨cl84, Ar84, qq84, S84, M84, H84, G84⟩ := id VR83
    have hd264_85 : (3 : Int32) = v2 := by rw [hn5]; try decide
    have hd281_86 : (0 : Int32) < v2 := by rw [hn5]; try decide
    obtain ⟨cl87, Ar87, qq87, S87, M87, H87, G87⟩ := id VR83
    have hin87 : ¬ ((0 : Int32) < 0 ∨ cl87.slots.size ≤ ((0 : Int32)).toNatClampNeg) := inb_of S87 ⟨by decide, by decide⟩
    have hat87 : cl87.slots[((0 : Int32)).toNatClampNeg]? = some (.long (own_X (own_X q0 q1) q2)) := H87 0 (by rw [S87]; decide)
    have hd291_88 : (own_X (own_X q0 q1) q2) = v18 := by simp only [ev10, ev12, ev14, ev16, ev18, ev20, ev22, ev24, ev26, ev28, xe0, xe1, xe2, own_x1, own_x2, own_n1, own_n2]
    have hd309_89 : (1 : Int32) < v2 := by rw [hn5]; try decide
    obtain ⟨cl90, Ar90, qq90, S90, M90, H90, G90⟩ := id VR83
    have hin90 : ¬ ((1 : Int32) < 0 ∨ cl90.slots.size ≤ ((1 : Int32)).toNatClampNeg) := inb_of S90 ⟨by decide, by decide⟩
    have hat90 : cl90.slots[((1 : Int32)).toNatClampNeg]? = some (.long (own_X (own_N q0 q1) (own_N (own_X q0 q1) q2))) := H90 1 (by rw [S90]; decide)
    have hd319_91 : (own_X (own_N q0 q1) (own_N (own_X q0 q1) q2)) = v26 := by simp only [ev10, ev12, ev14, ev16, ev18, ev20, ev22, ev24, ev26, ev28, xe0, xe1, xe2, own_x1, own_x2, own_n1, own_n2]
    have hd337_92 : (2 : Int32) < v2 := by rw [hn5]; try decide
    obtain ⟨cl93, Ar93, qq93, S93, M93, H93, G93⟩ := id VR83
    have hin93 : ¬ ((2 : Int32) < 0 ∨ cl93.slots.size ≤ ((2 : Int32)).toNatClampNeg) := inb_of S93 ⟨by decide, by decide⟩
    have hat93 : cl93.slots[((2 : Int32)).toNatClampNeg]? = some (.long (own_N (own_N q0 q1) (own_N (own_X q0 q1) q2))) := H93 2 (by rw [S93]; decide)
    have hd347_94 : (own_N (own_N q0 q1) (own_N (own_X q0 q1) q2)) = v28 := by simp only [ev10, ev12, ev14, ev16, ev18, ev20, ev22, ev24, ev26, ev28, xe0, xe1, xe2, own_x1, own_x2, own_n1, own_n2]
    have hd365_95 : ¬ ((3 : Int32) < v2) := by rw [hn5]; try decide
    obtain ⟨fs, hr, hrun, hended, hW, hsame⟩ := X83.leave (v := some (.int (1 : Int32))) (fun h => by rw [Bd.returns] at h; cases h)
    refine ⟨_, _, ?_, hrun, hended, _, _, rfl, ?_, ⟨_, rfl⟩, hW, hsame.mono (by decide) (by decide)⟩
    · refine XS.iload X27.here hx rfl (hb hby at_151) rfl ?_
      show Steps p.tables e below (T27.setTop (mkF m 153 #[.val (.long q0), .second, .val (.long q1), .second, .val (.long q2), .second, .val (.long q3), .second, .val (.int p4), .val (.int v2), .val (.long (-9223372036854775808 : Int64)), .second, .val (.long q0), .second, .val (.long v4), .second, .val (.long v6), .second, .val (.long v8), .second, .val (.long v10), .second, .val (.long v12), .second, .val (.long v14), .second, .val (.long v16), .second, .val (.long v18), .second, .val (.long v20), .second, .val (.long v22), .second, .val (.long v24), .second, .val (.long v26), .second, .val (.long v28), .second, .unset, .unset] [(.int v2)])) _
      refine XS.ifYes X27.here hx rfl (pc0 := 153) (pc' := 164) rfl (hb hby at_153) rfl ((if0 _ _).trans (feq hd153_72).2) (by decide) (by decide) ?_
      refine XS.iload X27.here hx rfl (hb hby at_164) rfl ?_
      show Steps p.tables e below (T27.setTop (mkF m 166 #[.val (.long q0), .second, .val (.long q1), .second, .val (.long q2), .second, .val (.long q3), .second, .val (.int p4), .val (.int v2), .val (.long (-9223372036854775808 : Int64)), .second, .val (.long q0), .second, .val (.long v4), .second, .val (.long v6), .second, .val (.long v8), .second, .val (.long v10), .second, .val (.long v12), .second, .val (.long v14), .second, .val (.long v16), .second, .val (.long v18), .second, .val (.long v20), .second, .val (.long v22), .second, .val (.long v24), .second, .val (.long v26), .second, .val (.long v28), .second, .unset, .unset] [(.int v2)])) _
      refine XS.iconst X27.here hx rfl (hb hby at_166) ?_
      show Steps p.tables e below (T27.setTop (mkF m 167 #[.val (.long q0), .second, .val (.long q1), .second, .val (.long q2), .second, .val (.long q3), .second, .val (.int p4), .val (.int v2), .val (.long (-9223372036854775808 : Int64)), .second, .val (.long q0), .second, .val (.long v4), .second, .val (.long v6), .second, .val (.long v8), .second, .val (.long v10), .second, .val (.long v12), .second, .val (.long v14), .second, .val (.long v16), .second, .val (.long v18), .second, .val (.long v20), .second, .val (.long v22), .second, .val (.long v24), .second, .val (.long v26), .second, .val (.long v28), .second, .unset, .unset] [(.int (1 : Int32)), (.int v2)])) _
      refine XS.icmpYes X27.here hx rfl (pc0 := 167) (pc' := 182) rfl (hb hby at_167) rfl (feq hd167_73).2 (by decide) (by decide) ?_
      refine XS.iload X27.here hx rfl (hb hby at_182) rfl ?_
      refine XS.iconst X27.here hx rfl (hb hby at_184) ?_
      show Steps p.tables e below (T27.setTop (mkF m 185 #[.val (.long q0), .second, .val (.long q1), .second, .val (.long q2), .second, .val (.long q3), .second, .val (.int p4), .val (.int v2), .val (.long (-9223372036854775808 : Int64)), .second, .val (.long q0), .second, .val (.long v4), .second, .val (.long v6), .second, .val (.long v8), .second, .val (.long v10), .second, .val (.long v12), .second, .val (.long v14), .second, .val (.long v16), .second, .val (.long v18), .second, .val (.long v20), .second, .val (.long v22), .second, .val (.long v24), .second, .val (.long v26), .second, .val (.long v28), .second, .unset, .unset] [(.int (2 : Int32)), (.int v2)])) _
      refine XS.icmpYes X27.here hx rfl (pc0 := 185) (pc' := 204) rfl (hb hby at_185) rfl (feq hd185_74).2 (by decide) (by decide) ?_
      refine XS.iload X27.here hx rfl (hb hby at_204) rfl ?_
      show Steps p.tables e below (T27.setTop (mkF m 206 #[.val (.long q0), .second, .val (.long q1), .second, .val (.long q2), .second, .val (.long q3), .second, .val (.int p4), .val (.int v2), .val (.long (-9223372036854775808 : Int64)), .second, .val (.long q0), .second, .val (.long v4), .second, .val (.long v6), .second, .val (.long v8), .second, .val (.long v10), .second, .val (.long v12), .second, .val (.long v14), .second, .val (.long v16), .second, .val (.long v18), .second, .val (.long v20), .second, .val (.long v22), .second, .val (.long v24), .second, .val (.long v26), .second, .val (.long v28), .second, .unset, .unset] [(.int v2)])) _
      refine XS.iconst X27.here hx rfl (hb hby at_206) ?_
      show Steps p.tables e below (T27.setTop (mkF m 207 #[.val (.long q0), .second, .val (.long q1), .second, .val (.long q2), .second, .val (.long q3), .second, .val (.int p4), .val (.int v2), .val (.long (-9223372036854775808 : Int64)), .second, .val (.long q0), .second, .val (.long v4), .second, .val (.long v6), .second, .val (.long v8), .second, .val (.long v10), .second, .val (.long v12), .second, .val (.long v14), .second, .val (.long v16), .second, .val (.long v18), .second, .val (.long v20), .second, .val (.long v22), .second, .val (.long v24), .second, .val (.long v26), .second, .val (.long v28), .second, .unset, .unset] [(.int (3 : Int32)), (.int v2)])) _
      refine XS.icmpNo X27.here hx rfl (hb hby at_207) rfl (teq hd207_75).2 ?_
      refine XS.iconst X27.here hx rfl (hb hby at_210) ?_
      refine st76 _ ?_
      refine XS.dup X76.here hx rfl (hb hby at_213) rfl rfl ?_
      show Steps p.tables e below (T76.setTop (mkF m 214 #[.val (.long q0), .second, .val (.long q1), .second, .val (.long q2), .second, .val (.long q3), .second, .val (.int p4), .val (.int v2), .val (.long (-9223372036854775808 : Int64)), .second, .val (.long q0), .second, .val (.long v4), .second, .val (.long v6), .second, .val (.long v8), .second, .val (.long v10), .second, .val (.long v12), .second, .val (.long v14), .second, .val (.long v16), .second, .val (.long v18), .second, .val (.long v20), .second, .val (.long v22), .second, .val (.long v24), .second, .val (.long v26), .second, .val (.long v28), .second, .unset, .unset] [(.ref b76), (.ref b76)])) _
      refine XS.iconst X76.here hx rfl (hb hby at_214) ?_
      refine XS.lloadN X76.here hx rfl (hb hby at_215) rfl ?_
      refine st78 _ ?_
      refine XS.dup X78.here hx rfl (hb hby at_217) rfl rfl ?_
      show Steps p.tables e below (T78.setTop (mkF m 218 #[.val (.long q0), .second, .val (.long q1), .second, .val (.long q2), .second, .val (.long q3), .second, .val (.int p4), .val (.int v2), .val (.long (-9223372036854775808 : Int64)), .second, .val (.long q0), .second, .val (.long v4), .second, .val (.long v6), .second, .val (.long v8), .second, .val (.long v10), .second, .val (.long v12), .second, .val (.long v14), .second, .val (.long v16), .second, .val (.long v18), .second, .val (.long v20), .second, .val (.long v22), .second, .val (.long v24), .second, .val (.long v26), .second, .val (.long v28), .second, .unset, .unset] [(.ref b76), (.ref b76)])) _
      refine XS.iconst X78.here hx rfl (hb hby at_218) ?_
      refine XS.lloadN X78.here hx rfl (hb hby at_219) rfl ?_
      refine st80 _ ?_
      refine XS.dup X80.here hx rfl (hb hby at_221) rfl rfl ?_
      show Steps p.tables e below (T80.setTop (mkF m 222 #[.val (.long q0), .second, .val (.long q1), .second, .val (.long q2), .second, .val (.long q3), .second, .val (.int p4), .val (.int v2), .val (.long (-9223372036854775808 : Int64)), .second, .val (.long q0), .second, .val (.long v4), .second, .val (.long v6), .second, .val (.long v8), .second, .val (.long v10), .second, .val (.long v12), .second, .val (.long v14), .second, .val (.long v16), .second, .val (.long v18), .second, .val (.long v20), .second, .val (.long v22), .second, .val (.long v24), .second, .val (.long v26), .second, .val (.long v28), .second, .unset, .unset] [(.ref b76), (.ref b76)])) _
      refine XS.iconst X80.here hx rfl (hb hby at_222) ?_
      refine XS.lload X80.here hx rfl (hb hby at_223) rfl ?_
      refine st82 _ ?_
      refine XS.astore X82.here hx rfl (hb hby at_226) rfl rfl (l' := #[.val (.long q0), .second, .val (.long q1), .second, .val (.long q2), .second, .val (.long q3), .second, .val (.int p4), .val (.int v2), .val (.long (-9223372036854775808 : Int64)), .second, .val (.long q0), .second, .val (.long v4), .second, .val (.long v6), .second, .val (.long v8), .second, .val (.long v10), .second, .val (.long v12), .second, .val (.long v14), .second, .val (.long v16), .second, .val (.long v18), .second, .val (.long v20), .second, .val (.long v22), .second, .val (.long v24), .second, .val (.long v26), .second, .val (.long v28), .second, .val (.ref b76), .unset]) rfl ?_
      show Steps p.tables e below (T82.setTop (mkF m 228 #[.val (.long q0), .second, .val (.long q1), .second, .val (.long q2), .second, .val (.long q3), .second, .val (.int p4), .val (.int v2), .val (.long (-9223372036854775808 : Int64)), .second, .val (.long q0), .second, .val (.long v4), .second, .val (.long v6), .second, .val (.long v8), .second, .val (.long v10), .second, .val (.long v12), .second, .val (.long v14), .second, .val (.long v16), .second, .val (.long v18), .second, .val (.long v20), .second, .val (.long v22), .second, .val (.long v24), .second, .val (.long v26), .second, .val (.long v28), .second, .val (.ref b76), .unset] [])) _
      refine XS.goto X82.here hx rfl (pc0 := 228) (pc' := 254) rfl (hb hby at_228) (by decide) (by decide) ?_
      show Steps p.tables e below (T82.setTop (mkF m 254 #[.val (.long q0), .second, .val (.long q1), .second, .val (.long q2), .second, .val (.long q3), .second, .val (.int p4), .val (.int v2), .val (.long (-9223372036854775808 : Int64)), .second, .val (.long q0), .second, .val (.long v4), .second, .val (.long v6), .second, .val (.long v8), .second, .val (.long v10), .second, .val (.long v12), .second, .val (.long v14), .second, .val (.long v16), .second, .val (.long v18), .second, .val (.long v20), .second, .val (.long v22), .second, .val (.long v24), .second, .val (.long v26), .second, .val (.long v28), .second, .val (.ref b76), .unset] [])) _
      refine XS.aload X82.here hx rfl (hb hby at_254) rfl rfl ?_
      refine st83 _ ?_
      refine XS.aload X83.here hx rfl (hb hby at_259) rfl rfl ?_
      refine X83.arraylength hx Ar84.1 (State.isArrayOf_alike hZ.alike Ar84.2.1) (g := (mkF m 261 #[.val (.long q0), .second, .val (.long q1), .second, .val (.long q2), .second, .val (.long q3), .second, .val (.int p4), .val (.int v2), .val (.long (-9223372036854775808 : Int64)), .second, .val (.long q0), .second, .val (.long v4), .second, .val (.long v6), .second, .val (.long v8), .second, .val (.long v10), .second, .val (.long v12), .second, .val (.long v14), .second, .val (.long v16), .second, .val (.long v18), .second, .val (.long v20), .second, .val (.long v22), .second, .val (.long v24), .second, .val (.long v26), .second, .val (.long v28), .second, .val (.ref b76), .unset] [(.ref b76)])) rfl rfl (hb hby at_261) _ ?_
      rw [len_of S84 M84]
      show Steps p.tables e below (T83.setTop (mkF m 262 #[.val (.long q0), .second, .val (.long q1), .second, .val (.long q2), .second, .val (.long q3), .second, .val (.int p4), .val (.int v2), .val (.long (-9223372036854775808 : Int64)), .second, .val (.long q0), .second, .val (.long v4), .second, .val (.long v6), .second, .val (.long v8), .second, .val (.long v10), .second, .val (.long v12), .second, .val (.long v14), .second, .val (.long v16), .second, .val (.long v18), .second, .val (.long v20), .second, .val (.long v22), .second, .val (.long v24), .second, .val (.long v26), .second, .val (.long v28), .second, .val (.ref b76), .unset] [(.int (3 : Int32))])) _
      refine XS.iload X83.here hx rfl (hb hby at_262) rfl ?_
      show Steps p.tables e below (T83.setTop (mkF m 264 #[.val (.long q0), .second, .val (.long q1), .second, .val (.long q2), .second, .val (.long q3), .second, .val (.int p4), .val (.int v2), .val (.long (-9223372036854775808 : Int64)), .second, .val (.long q0), .second, .val (.long v4), .second, .val (.long v6), .second, .val (.long v8), .second, .val (.long v10), .second, .val (.long v12), .second, .val (.long v14), .second, .val (.long v16), .second, .val (.long v18), .second, .val (.long v20), .second, .val (.long v22), .second, .val (.long v24), .second, .val (.long v26), .second, .val (.long v28), .second, .val (.ref b76), .unset] [(.int v2), (.int (3 : Int32))])) _
      refine XS.icmpNo X83.here hx rfl (hb hby at_264) rfl (teq hd264_85).2 ?_
      refine XS.iconst X83.here hx rfl (hb hby at_267) ?_
      show Steps p.tables e below (T83.setTop (mkF m 268 #[.val (.long q0), .second, .val (.long q1), .second, .val (.long q2), .second, .val (.long q3), .second, .val (.int p4), .val (.int v2), .val (.long (-9223372036854775808 : Int64)), .second, .val (.long q0), .second, .val (.long v4), .second, .val (.long v6), .second, .val (.long v8), .second, .val (.long v10), .second, .val (.long v12), .second, .val (.long v14), .second, .val (.long v16), .second, .val (.long v18), .second, .val (.long v20), .second, .val (.long v22), .second, .val (.long v24), .second, .val (.long v26), .second, .val (.long v28), .second, .val (.ref b76), .unset] [(.int (1 : Int32))])) _
      refine XS.goto X83.here hx rfl (pc0 := 268) (pc' := 272) rfl (hb hby at_268) (by decide) (by decide) ?_
      refine XS.istore X83.here hx rfl (hb hby at_272) rfl (l' := #[.val (.long q0), .second, .val (.long q1), .second, .val (.long q2), .second, .val (.long q3), .second, .val (.int p4), .val (.int v2), .val (.long (-9223372036854775808 : Int64)), .second, .val (.long q0), .second, .val (.long v4), .second, .val (.long v6), .second, .val (.long v8), .second, .val (.long v10), .second, .val (.long v12), .second, .val (.long v14), .second, .val (.long v16), .second, .val (.long v18), .second, .val (.long v20), .second, .val (.long v22), .second, .val (.long v24), .second, .val (.long v26), .second, .val (.long v28), .second, .val (.ref b76), .val (.int (1 : Int32))]) rfl ?_
      refine XS.iload X83.here hx rfl (hb hby at_274) rfl ?_
      show Steps p.tables e below (T83.setTop (mkF m 276 #[.val (.long q0), .second, .val (.long q1), .second, .val (.long q2), .second, .val (.long q3), .second, .val (.int p4), .val (.int v2), .val (.long (-9223372036854775808 : Int64)), .second, .val (.long q0), .second, .val (.long v4), .second, .val (.long v6), .second, .val (.long v8), .second, .val (.long v10), .second, .val (.long v12), .second, .val (.long v14), .second, .val (.long v16), .second, .val (.long v18), .second, .val (.long v20), .second, .val (.long v22), .second, .val (.long v24), .second, .val (.long v26), .second, .val (.long v28), .second, .val (.ref b76), .val (.int (1 : Int32))] [(.int (1 : Int32))])) _
      refine XS.ifNo X83.here hx rfl (hb hby at_276) rfl ((if0 _ _).trans (feq (by decide : ¬ ((1 : Int32) = (0 : Int32)))).1) ?_
      show Steps p.tables e below (T83.setTop (mkF m 279 #[.val (.long q0), .second, .val (.long q1), .second, .val (.long q2), .second, .val (.long q3), .second, .val (.int p4), .val (.int v2), .val (.long (-9223372036854775808 : Int64)), .second, .val (.long q0), .second, .val (.long v4), .second, .val (.long v6), .second, .val (.long v8), .second, .val (.long v10), .second, .val (.long v12), .second, .val (.long v14), .second, .val (.long v16), .second, .val (.long v18), .second, .val (.long v20), .second, .val (.long v22), .second, .val (.long v24), .second, .val (.long v26), .second, .val (.long v28), .second, .val (.ref b76), .val (.int (1 : Int32))] [])) _
      refine XS.iload X83.here hx rfl (hb hby at_279) rfl ?_
      show Steps p.tables e below (T83.setTop (mkF m 281 #[.val (.long q0), .second, .val (.long q1), .second, .val (.long q2), .second, .val (.long q3), .second, .val (.int p4), .val (.int v2), .val (.long (-9223372036854775808 : Int64)), .second, .val (.long q0), .second, .val (.long v4), .second, .val (.long v6), .second, .val (.long v8), .second, .val (.long v10), .second, .val (.long v12), .second, .val (.long v14), .second, .val (.long v16), .second, .val (.long v18), .second, .val (.long v20), .second, .val (.long v22), .second, .val (.long v24), .second, .val (.long v26), .second, .val (.long v28), .second, .val (.ref b76), .val (.int (1 : Int32))] [(.int v2)])) _
      refine XS.ifNo X83.here hx rfl (hb hby at_281) rfl ((if0 _ _).trans (tlt hd281_86).2.2.2) ?_
      refine XS.aload X83.here hx rfl (hb hby at_284) rfl rfl ?_
      refine XS.iconst X83.here hx rfl (hb hby at_286) ?_
      refine X83.laload hx (j := (0 : Int32)) (v := (.long (own_X (own_X q0 q1) q2))) Ar87.1 (State.isArrayOf_alike hZ.alike Ar87.2.1) Ar87.2.2 hin87 hat87 (g := (mkF m 287 #[.val (.long q0), .second, .val (.long q1), .second, .val (.long q2), .second, .val (.long q3), .second, .val (.int p4), .val (.int v2), .val (.long (-9223372036854775808 : Int64)), .second, .val (.long q0), .second, .val (.long v4), .second, .val (.long v6), .second, .val (.long v8), .second, .val (.long v10), .second, .val (.long v12), .second, .val (.long v14), .second, .val (.long v16), .second, .val (.long v18), .second, .val (.long v20), .second, .val (.long v22), .second, .val (.long v24), .second, .val (.long v26), .second, .val (.long v28), .second, .val (.ref b76), .val (.int (1 : Int32))] [(.int (0 : Int32)), (.ref b76)])) rfl rfl (hb hby at_287) _ ?_
      show Steps p.tables e below (T83.setTop (mkF m 288 #[.val (.long q0), .second, .val (.long q1), .second, .val (.long q2), .second, .val (.long q3), .second, .val (.int p4), .val (.int v2), .val (.long (-9223372036854775808 : Int64)), .second, .val (.long q0), .second, .val (.long v4), .second, .val (.long v6), .second, .val (.long v8), .second, .val (.long v10), .second, .val (.long v12), .second, .val (.long v14), .second, .val (.long v16), .second, .val (.long v18), .second, .val (.long v20), .second, .val (.long v22), .second, .val (.long v24), .second, .val (.long v26), .second, .val (.long v28), .second, .val (.ref b76), .val (.int (1 : Int32))] [(.long (own_X (own_X q0 q1) q2))])) _
      refine XS.lload X83.here hx rfl (hb hby at_288) rfl ?_
      refine XS.lcmp X83.here hx rfl (hb hby at_290) rfl ?_
      show Steps p.tables e below (T83.setTop (mkF m 291 #[.val (.long q0), .second, .val (.long q1), .second, .val (.long q2), .second, .val (.long q3), .second, .val (.int p4), .val (.int v2), .val (.long (-9223372036854775808 : Int64)), .second, .val (.long q0), .second, .val (.long v4), .second, .val (.long v6), .second, .val (.long v8), .second, .val (.long v10), .second, .val (.long v12), .second, .val (.long v14), .second, .val (.long v16), .second, .val (.long v18), .second, .val (.long v20), .second, .val (.long v22), .second, .val (.long v24), .second, .val (.long v26), .second, .val (.long v28), .second, .val (.ref b76), .val (.int (1 : Int32))] [(.int (lcmpW (own_X (own_X q0 q1) q2) v18))])) _
      refine XS.ifNo X83.here hx rfl (hb hby at_291) rfl ((if0 _ _).trans (teq ((lw_eq (own_X (own_X q0 q1) q2) v18).mpr hd291_88)).2) ?_
      refine XS.iconst X83.here hx rfl (hb hby at_294) ?_
      show Steps p.tables e below (T83.setTop (mkF m 295 #[.val (.long q0), .second, .val (.long q1), .second, .val (.long q2), .second, .val (.long q3), .second, .val (.int p4), .val (.int v2), .val (.long (-9223372036854775808 : Int64)), .second, .val (.long q0), .second, .val (.long v4), .second, .val (.long v6), .second, .val (.long v8), .second, .val (.long v10), .second, .val (.long v12), .second, .val (.long v14), .second, .val (.long v16), .second, .val (.long v18), .second, .val (.long v20), .second, .val (.long v22), .second, .val (.long v24), .second, .val (.long v26), .second, .val (.long v28), .second, .val (.ref b76), .val (.int (1 : Int32))] [(.int (1 : Int32))])) _
      refine XS.goto X83.here hx rfl (pc0 := 295) (pc' := 299) rfl (hb hby at_295) (by decide) (by decide) ?_
      refine XS.istore X83.here hx rfl (hb hby at_299) rfl (l' := #[.val (.long q0), .second, .val (.long q1), .second, .val (.long q2), .second, .val (.long q3), .second, .val (.int p4), .val (.int v2), .val (.long (-9223372036854775808 : Int64)), .second, .val (.long q0), .second, .val (.long v4), .second, .val (.long v6), .second, .val (.long v8), .second, .val (.long v10), .second, .val (.long v12), .second, .val (.long v14), .second, .val (.long v16), .second, .val (.long v18), .second, .val (.long v20), .second, .val (.long v22), .second, .val (.long v24), .second, .val (.long v26), .second, .val (.long v28), .second, .val (.ref b76), .val (.int (1 : Int32))]) rfl ?_
      show Steps p.tables e below (T83.setTop (mkF m 301 #[.val (.long q0), .second, .val (.long q1), .second, .val (.long q2), .second, .val (.long q3), .second, .val (.int p4), .val (.int v2), .val (.long (-9223372036854775808 : Int64)), .second, .val (.long q0), .second, .val (.long v4), .second, .val (.long v6), .second, .val (.long v8), .second, .val (.long v10), .second, .val (.long v12), .second, .val (.long v14), .second, .val (.long v16), .second, .val (.long v18), .second, .val (.long v20), .second, .val (.long v22), .second, .val (.long v24), .second, .val (.long v26), .second, .val (.long v28), .second, .val (.ref b76), .val (.int (1 : Int32))] [])) _
      refine XS.iload X83.here hx rfl (hb hby at_301) rfl ?_
      show Steps p.tables e below (T83.setTop (mkF m 303 #[.val (.long q0), .second, .val (.long q1), .second, .val (.long q2), .second, .val (.long q3), .second, .val (.int p4), .val (.int v2), .val (.long (-9223372036854775808 : Int64)), .second, .val (.long q0), .second, .val (.long v4), .second, .val (.long v6), .second, .val (.long v8), .second, .val (.long v10), .second, .val (.long v12), .second, .val (.long v14), .second, .val (.long v16), .second, .val (.long v18), .second, .val (.long v20), .second, .val (.long v22), .second, .val (.long v24), .second, .val (.long v26), .second, .val (.long v28), .second, .val (.ref b76), .val (.int (1 : Int32))] [(.int (1 : Int32))])) _
      refine XS.ifNo X83.here hx rfl (hb hby at_303) rfl ((if0 _ _).trans (feq (by decide : ¬ ((1 : Int32) = (0 : Int32)))).1) ?_
      refine XS.iload X83.here hx rfl (hb hby at_306) rfl ?_
      refine XS.iconst X83.here hx rfl (hb hby at_308) ?_
      show Steps p.tables e below (T83.setTop (mkF m 309 #[.val (.long q0), .second, .val (.long q1), .second, .val (.long q2), .second, .val (.long q3), .second, .val (.int p4), .val (.int v2), .val (.long (-9223372036854775808 : Int64)), .second, .val (.long q0), .second, .val (.long v4), .second, .val (.long v6), .second, .val (.long v8), .second, .val (.long v10), .second, .val (.long v12), .second, .val (.long v14), .second, .val (.long v16), .second, .val (.long v18), .second, .val (.long v20), .second, .val (.long v22), .second, .val (.long v24), .second, .val (.long v26), .second, .val (.long v28), .second, .val (.ref b76), .val (.int (1 : Int32))] [(.int (1 : Int32)), (.int v2)])) _
      refine XS.icmpNo X83.here hx rfl (hb hby at_309) rfl (tlt hd309_89).2.2.2 ?_
      refine XS.aload X83.here hx rfl (hb hby at_312) rfl rfl ?_
      show Steps p.tables e below (T83.setTop (mkF m 314 #[.val (.long q0), .second, .val (.long q1), .second, .val (.long q2), .second, .val (.long q3), .second, .val (.int p4), .val (.int v2), .val (.long (-9223372036854775808 : Int64)), .second, .val (.long q0), .second, .val (.long v4), .second, .val (.long v6), .second, .val (.long v8), .second, .val (.long v10), .second, .val (.long v12), .second, .val (.long v14), .second, .val (.long v16), .second, .val (.long v18), .second, .val (.long v20), .second, .val (.long v22), .second, .val (.long v24), .second, .val (.long v26), .second, .val (.long v28), .second, .val (.ref b76), .val (.int (1 : Int32))] [(.ref b76)])) _
      refine XS.iconst X83.here hx rfl (hb hby at_314) ?_
      refine X83.laload hx (j := (1 : Int32)) (v := (.long (own_X (own_N q0 q1) (own_N (own_X q0 q1) q2)))) Ar90.1 (State.isArrayOf_alike hZ.alike Ar90.2.1) Ar90.2.2 hin90 hat90 (g := (mkF m 315 #[.val (.long q0), .second, .val (.long q1), .second, .val (.long q2), .second, .val (.long q3), .second, .val (.int p4), .val (.int v2), .val (.long (-9223372036854775808 : Int64)), .second, .val (.long q0), .second, .val (.long v4), .second, .val (.long v6), .second, .val (.long v8), .second, .val (.long v10), .second, .val (.long v12), .second, .val (.long v14), .second, .val (.long v16), .second, .val (.long v18), .second, .val (.long v20), .second, .val (.long v22), .second, .val (.long v24), .second, .val (.long v26), .second, .val (.long v28), .second, .val (.ref b76), .val (.int (1 : Int32))] [(.int (1 : Int32)), (.ref b76)])) rfl rfl (hb hby at_315) _ ?_
      refine XS.lload X83.here hx rfl (hb hby at_316) rfl ?_
      refine XS.lcmp X83.here hx rfl (hb hby at_318) rfl ?_
      show Steps p.tables e below (T83.setTop (mkF m 319 #[.val (.long q0), .second, .val (.long q1), .second, .val (.long q2), .second, .val (.long q3), .second, .val (.int p4), .val (.int v2), .val (.long (-9223372036854775808 : Int64)), .second, .val (.long q0), .second, .val (.long v4), .second, .val (.long v6), .second, .val (.long v8), .second, .val (.long v10), .second, .val (.long v12), .second, .val (.long v14), .second, .val (.long v16), .second, .val (.long v18), .second, .val (.long v20), .second, .val (.long v22), .second, .val (.long v24), .second, .val (.long v26), .second, .val (.long v28), .second, .val (.ref b76), .val (.int (1 : Int32))] [(.int (lcmpW (own_X (own_N q0 q1) (own_N (own_X q0 q1) q2)) v26))])) _
      refine XS.ifNo X83.here hx rfl (hb hby at_319) rfl ((if0 _ _).trans (teq ((lw_eq (own_X (own_N q0 q1) (own_N (own_X q0 q1) q2)) v26).mpr hd319_91)).2) ?_
      show Steps p.tables e below (T83.setTop (mkF m 322 #[.val (.long q0), .second, .val (.long q1), .second, .val (.long q2), .second, .val (.long q3), .second, .val (.int p4), .val (.int v2), .val (.long (-9223372036854775808 : Int64)), .second, .val (.long q0), .second, .val (.long v4), .second, .val (.long v6), .second, .val (.long v8), .second, .val (.long v10), .second, .val (.long v12), .second, .val (.long v14), .second, .val (.long v16), .second, .val (.long v18), .second, .val (.long v20), .second, .val (.long v22), .second, .val (.long v24), .second, .val (.long v26), .second, .val (.long v28), .second, .val (.ref b76), .val (.int (1 : Int32))] [])) _
      refine XS.iconst X83.here hx rfl (hb hby at_322) ?_
      show Steps p.tables e below (T83.setTop (mkF m 323 #[.val (.long q0), .second, .val (.long q1), .second, .val (.long q2), .second, .val (.long q3), .second, .val (.int p4), .val (.int v2), .val (.long (-9223372036854775808 : Int64)), .second, .val (.long q0), .second, .val (.long v4), .second, .val (.long v6), .second, .val (.long v8), .second, .val (.long v10), .second, .val (.long v12), .second, .val (.long v14), .second, .val (.long v16), .second, .val (.long v18), .second, .val (.long v20), .second, .val (.long v22), .second, .val (.long v24), .second, .val (.long v26), .second, .val (.long v28), .second, .val (.ref b76), .val (.int (1 : Int32))] [(.int (1 : Int32))])) _
      refine XS.goto X83.here hx rfl (pc0 := 323) (pc' := 327) rfl (hb hby at_323) (by decide) (by decide) ?_
      refine XS.istore X83.here hx rfl (hb hby at_327) rfl (l' := #[.val (.long q0), .second, .val (.long q1), .second, .val (.long q2), .second, .val (.long q3), .second, .val (.int p4), .val (.int v2), .val (.long (-9223372036854775808 : Int64)), .second, .val (.long q0), .second, .val (.long v4), .second, .val (.long v6), .second, .val (.long v8), .second, .val (.long v10), .second, .val (.long v12), .second, .val (.long v14), .second, .val (.long v16), .second, .val (.long v18), .second, .val (.long v20), .second, .val (.long v22), .second, .val (.long v24), .second, .val (.long v26), .second, .val (.long v28), .second, .val (.ref b76), .val (.int (1 : Int32))]) rfl ?_
      refine XS.iload X83.here hx rfl (hb hby at_329) rfl ?_
      show Steps p.tables e below (T83.setTop (mkF m 331 #[.val (.long q0), .second, .val (.long q1), .second, .val (.long q2), .second, .val (.long q3), .second, .val (.int p4), .val (.int v2), .val (.long (-9223372036854775808 : Int64)), .second, .val (.long q0), .second, .val (.long v4), .second, .val (.long v6), .second, .val (.long v8), .second, .val (.long v10), .second, .val (.long v12), .second, .val (.long v14), .second, .val (.long v16), .second, .val (.long v18), .second, .val (.long v20), .second, .val (.long v22), .second, .val (.long v24), .second, .val (.long v26), .second, .val (.long v28), .second, .val (.ref b76), .val (.int (1 : Int32))] [(.int (1 : Int32))])) _
      refine XS.ifNo X83.here hx rfl (hb hby at_331) rfl ((if0 _ _).trans (feq (by decide : ¬ ((1 : Int32) = (0 : Int32)))).1) ?_
      refine XS.iload X83.here hx rfl (hb hby at_334) rfl ?_
      show Steps p.tables e below (T83.setTop (mkF m 336 #[.val (.long q0), .second, .val (.long q1), .second, .val (.long q2), .second, .val (.long q3), .second, .val (.int p4), .val (.int v2), .val (.long (-9223372036854775808 : Int64)), .second, .val (.long q0), .second, .val (.long v4), .second, .val (.long v6), .second, .val (.long v8), .second, .val (.long v10), .second, .val (.long v12), .second, .val (.long v14), .second, .val (.long v16), .second, .val (.long v18), .second, .val (.long v20), .second, .val (.long v22), .second, .val (.long v24), .second, .val (.long v26), .second, .val (.long v28), .second, .val (.ref b76), .val (.int (1 : Int32))] [(.int v2)])) _
      refine XS.iconst X83.here hx rfl (hb hby at_336) ?_
      show Steps p.tables e below (T83.setTop (mkF m 337 #[.val (.long q0), .second, .val (.long q1), .second, .val (.long q2), .second, .val (.long q3), .second, .val (.int p4), .val (.int v2), .val (.long (-9223372036854775808 : Int64)), .second, .val (.long q0), .second, .val (.long v4), .second, .val (.long v6), .second, .val (.long v8), .second, .val (.long v10), .second, .val (.long v12), .second, .val (.long v14), .second, .val (.long v16), .second, .val (.long v18), .second, .val (.long v20), .second, .val (.long v22), .second, .val (.long v24), .second, .val (.long v26), .second, .val (.long v28), .second, .val (.ref b76), .val (.int (1 : Int32))] [(.int (2 : Int32)), (.int v2)])) _
      refine XS.icmpNo X83.here hx rfl (hb hby at_337) rfl (tlt hd337_92).2.2.2 ?_
      refine XS.aload X83.here hx rfl (hb hby at_340) rfl rfl ?_
      refine XS.iconst X83.here hx rfl (hb hby at_342) ?_
      refine X83.laload hx (j := (2 : Int32)) (v := (.long (own_N (own_N q0 q1) (own_N (own_X q0 q1) q2)))) Ar93.1 (State.isArrayOf_alike hZ.alike Ar93.2.1) Ar93.2.2 hin93 hat93 (g := (mkF m 343 #[.val (.long q0), .second, .val (.long q1), .second, .val (.long q2), .second, .val (.long q3), .second, .val (.int p4), .val (.int v2), .val (.long (-9223372036854775808 : Int64)), .second, .val (.long q0), .second, .val (.long v4), .second, .val (.long v6), .second, .val (.long v8), .second, .val (.long v10), .second, .val (.long v12), .second, .val (.long v14), .second, .val (.long v16), .second, .val (.long v18), .second, .val (.long v20), .second, .val (.long v22), .second, .val (.long v24), .second, .val (.long v26), .second, .val (.long v28), .second, .val (.ref b76), .val (.int (1 : Int32))] [(.int (2 : Int32)), (.ref b76)])) rfl rfl (hb hby at_343) _ ?_
      show Steps p.tables e below (T83.setTop (mkF m 344 #[.val (.long q0), .second, .val (.long q1), .second, .val (.long q2), .second, .val (.long q3), .second, .val (.int p4), .val (.int v2), .val (.long (-9223372036854775808 : Int64)), .second, .val (.long q0), .second, .val (.long v4), .second, .val (.long v6), .second, .val (.long v8), .second, .val (.long v10), .second, .val (.long v12), .second, .val (.long v14), .second, .val (.long v16), .second, .val (.long v18), .second, .val (.long v20), .second, .val (.long v22), .second, .val (.long v24), .second, .val (.long v26), .second, .val (.long v28), .second, .val (.ref b76), .val (.int (1 : Int32))] [(.long (own_N (own_N q0 q1) (own_N (own_X q0 q1) q2)))])) _
      refine XS.lload X83.here hx rfl (hb hby at_344) rfl ?_
      refine XS.lcmp X83.here hx rfl (hb hby at_346) rfl ?_
      show Steps p.tables e below (T83.setTop (mkF m 347 #[.val (.long q0), .second, .val (.long q1), .second, .val (.long q2), .second, .val (.long q3), .second, .val (.int p4), .val (.int v2), .val (.long (-9223372036854775808 : Int64)), .second, .val (.long q0), .second, .val (.long v4), .second, .val (.long v6), .second, .val (.long v8), .second, .val (.long v10), .second, .val (.long v12), .second, .val (.long v14), .second, .val (.long v16), .second, .val (.long v18), .second, .val (.long v20), .second, .val (.long v22), .second, .val (.long v24), .second, .val (.long v26), .second, .val (.long v28), .second, .val (.ref b76), .val (.int (1 : Int32))] [(.int (lcmpW (own_N (own_N q0 q1) (own_N (own_X q0 q1) q2)) v28))])) _
      refine XS.ifNo X83.here hx rfl (hb hby at_347) rfl ((if0 _ _).trans (teq ((lw_eq (own_N (own_N q0 q1) (own_N (own_X q0 q1) q2)) v28).mpr hd347_94)).2) ?_
      refine XS.iconst X83.here hx rfl (hb hby at_350) ?_
      show Steps p.tables e below (T83.setTop (mkF m 351 #[.val (.long q0), .second, .val (.long q1), .second, .val (.long q2), .second, .val (.long q3), .second, .val (.int p4), .val (.int v2), .val (.long (-9223372036854775808 : Int64)), .second, .val (.long q0), .second, .val (.long v4), .second, .val (.long v6), .second, .val (.long v8), .second, .val (.long v10), .second, .val (.long v12), .second, .val (.long v14), .second, .val (.long v16), .second, .val (.long v18), .second, .val (.long v20), .second, .val (.long v22), .second, .val (.long v24), .second, .val (.long v26), .second, .val (.long v28), .second, .val (.ref b76), .val (.int (1 : Int32))] [(.int (1 : Int32))])) _
      refine XS.goto X83.here hx rfl (pc0 := 351) (pc' := 355) rfl (hb hby at_351) (by decide) (by decide) ?_
      refine XS.istore X83.here hx rfl (hb hby at_355) rfl (l' := #[.val (.long q0), .second, .val (.long q1), .second, .val (.long q2), .second, .val (.long q3), .second, .val (.int p4), .val (.int v2), .val (.long (-9223372036854775808 : Int64)), .second, .val (.long q0), .second, .val (.long v4), .second, .val (.long v6), .second, .val (.long v8), .second, .val (.long v10), .second, .val (.long v12), .second, .val (.long v14), .second, .val (.long v16), .second, .val (.long v18), .second, .val (.long v20), .second, .val (.long v22), .second, .val (.long v24), .second, .val (.long v26), .second, .val (.long v28), .second, .val (.ref b76), .val (.int (1 : Int32))]) rfl ?_
      show Steps p.tables e below (T83.setTop (mkF m 357 #[.val (.long q0), .second, .val (.long q1), .second, .val (.long q2), .second, .val (.long q3), .second, .val (.int p4), .val (.int v2), .val (.long (-9223372036854775808 : Int64)), .second, .val (.long q0), .second, .val (.long v4), .second, .val (.long v6), .second, .val (.long v8), .second, .val (.long v10), .second, .val (.long v12), .second, .val (.long v14), .second, .val (.long v16), .second, .val (.long v18), .second, .val (.long v20), .second, .val (.long v22), .second, .val (.long v24), .second, .val (.long v26), .second, .val (.long v28), .second, .val (.ref b76), .val (.int (1 : Int32))] [])) _
      refine XS.iload X83.here hx rfl (hb hby at_357) rfl ?_
      show Steps p.tables e below (T83.setTop (mkF m 359 #[.val (.long q0), .second, .val (.long q1), .second, .val (.long q2), .second, .val (.long q3), .second, .val (.int p4), .val (.int v2), .val (.long (-9223372036854775808 : Int64)), .second, .val (.long q0), .second, .val (.long v4), .second, .val (.long v6), .second, .val (.long v8), .second, .val (.long v10), .second, .val (.long v12), .second, .val (.long v14), .second, .val (.long v16), .second, .val (.long v18), .second, .val (.long v20), .second, .val (.long v22), .second, .val (.long v24), .second, .val (.long v26), .second, .val (.long v28), .second, .val (.ref b76), .val (.int (1 : Int32))] [(.int (1 : Int32))])) _
      refine XS.ifNo X83.here hx rfl (hb hby at_359) rfl ((if0 _ _).trans (feq (by decide : ¬ ((1 : Int32) = (0 : Int32)))).1) ?_
      refine XS.iload X83.here hx rfl (hb hby at_362) rfl ?_
      refine XS.iconst X83.here hx rfl (hb hby at_364) ?_
      show Steps p.tables e below (T83.setTop (mkF m 365 #[.val (.long q0), .second, .val (.long q1), .second, .val (.long q2), .second, .val (.long q3), .second, .val (.int p4), .val (.int v2), .val (.long (-9223372036854775808 : Int64)), .second, .val (.long q0), .second, .val (.long v4), .second, .val (.long v6), .second, .val (.long v8), .second, .val (.long v10), .second, .val (.long v12), .second, .val (.long v14), .second, .val (.long v16), .second, .val (.long v18), .second, .val (.long v20), .second, .val (.long v22), .second, .val (.long v24), .second, .val (.long v26), .second, .val (.long v28), .second, .val (.ref b76), .val (.int (1 : Int32))] [(.int (3 : Int32)), (.int v2)])) _
      refine XS.icmpYes X83.here hx rfl (pc0 := 365) (pc' := 385) rfl (hb hby at_365) rfl (flt hd365_95).2.2.2 (by decide) (by decide) ?_
      refine XS.iload X83.here hx rfl (hb hby at_385) rfl ?_
      show Steps p.tables e below (T83.setTop (mkF m 387 #[.val (.long q0), .second, .val (.long q1), .second, .val (.long q2), .second, .val (.long q3), .second, .val (.int p4), .val (.int v2), .val (.long (-9223372036854775808 : Int64)), .second, .val (.long q0), .second, .val (.long v4), .second, .val (.long v6), .second, .val (.long v8), .second, .val (.long v10), .second, .val (.long v12), .second, .val (.long v14), .second, .val (.long v16), .second, .val (.long v18), .second, .val (.long v20), .second, .val (.long v22), .second, .val (.long v24), .second, .val (.long v26), .second, .val (.long v28), .second, .val (.ref b76), .val (.int (1 : Int32))] [(.int (1 : Int32))])) _
      exact retN X83 hx (t := .boolean) Bd.returns (by simp) (hb hby at_387) hr
    · show Q0 Z q0 q1 q2 q3 p4  h0 n0 _ T83.heap _
      exact ⟨rfl, N83⟩
  · skip
    have xe0 := ev4.trans (if_pos (by rw [hn5]; decide))
    have xe1 := ev6.trans (if_pos (by rw [hn5]; decide))
    have xe2 := ev8.trans (if_pos (by rw [hn5]; decide))
    have hd153_96 : ¬ (v2 = (0 : Int32)) := by rw [hn5]; try decide
    have hd167_97 : ¬ (v2 = (1 : Int32)) := by rw [hn5]; try decide
    have hd185_98 : ¬ (v2 = (2 : Int32)) := by rw [hn5]; try decide
    have hd207_99 : ¬ (v2 = (3 : Int32)) := by rw [hn5]; try decide
    obtain ⟨T100, h100, k100, X100, e100, E100, A100, st100⟩ := newP X27 hx hZ (hw _ (List.mem_of_getElem? (i := 9) rfl)) e27 (g := (mkF m 232 #[.val (.long q0), .second, .val (.long q1), .second, .val (.long q2), .second, .val (.long q3), .second, .val (.int p4), .val (.int v2), .val (.long (-9223372036854775808 : Int64)), .second, .val (.long q0), .second, .val (.long v4), .second, .val (.long v6), .second, .val (.long v8), .second, .val (.long v10), .second, .val (.long v12), .second, .val (.long v14), .second, .val (.long v16), .second, .val (.long v18), .second, .val (.long v20), .second, .val (.long v22), .second, .val (.long v24), .second, .val (.long v26), .second, .val (.long v28), .second, .unset, .unset] [(.int (4 : Int32))])) rfl (hb hby at_232) rfl (by decide) (cap := 4) (by decide) (by decide) (by decide) (by decide)
    obtain ⟨b100, g100⟩ : ∃ z, z = h0.size := ⟨_, rfl⟩
    rw [← g100] at A100 st100
    have gnb100 : n0 ≤ b100 := Nat.le_trans Z0 (Nat.le_of_eq g100.symm)
    have Z100 : n0 ≤ h100.size := Nat.le_trans Z0 E100.1
    have V100 : Arv Z h100 b100 k100 .long (4 : Int32) [(.long (0 : Int64)), (.long (0 : Int64)), (.long (0 : Int64)), (.long (0 : Int64))] (.long (0 : Int64)) := (Arv.new A100 (by decide)).pad (pad_rep [] (.long (0 : Int64)) 4)
    obtain ⟨cl101, Ar101, qq101, S101, M101, H101, G101⟩ := id V100
    have hin101 : ¬ ((0 : Int32) < 0 ∨ cl101.slots.size ≤ ((0 : Int32)).toNatClampNeg) := inb_of S101 ⟨by decide, by decide⟩
    obtain ⟨T102, h102, X102, e102, W102, st102⟩ := stJ X100 hx hZ e100 Ar101 (j := (0 : Int32)) hin101 (g := (mkF m 237 #[.val (.long q0), .second, .val (.long q1), .second, .val (.long q2), .second, .val (.long q3), .second, .val (.int p4), .val (.int v2), .val (.long (-9223372036854775808 : Int64)), .second, .val (.long q0), .second, .val (.long v4), .second, .val (.long v6), .second, .val (.long v8), .second, .val (.long v10), .second, .val (.long v12), .second, .val (.long v14), .second, .val (.long v16), .second, .val (.long v18), .second, .val (.long v20), .second, .val (.long v22), .second, .val (.long v24), .second, .val (.long v26), .second, .val (.long v28), .second, .unset, .unset] [(.long q0), (.int (0 : Int32)), (.ref b100), (.ref b100)])) rfl rfl (hb hby at_237)
    have V102 : Arv Z h102 b100 k100 .long (4 : Int32) [(.long q0), (.long (0 : Int64)), (.long (0 : Int64)), (.long (0 : Int64))] _ := Arv.set Ar101 qq101 S101 M101 H101 G101 rfl W102 0 rfl (Nat.le_of_ble_eq_true rfl)
    have N102 := Fr.snoc X102 N27 gnb100
    have Z102 : n0 ≤ h102.size := Nat.le_trans Z100 (Nat.le_of_eq W102.size.symm)
    obtain ⟨cl103, Ar103, qq103, S103, M103, H103, G103⟩ := id V102
    have hin103 : ¬ ((1 : Int32) < 0 ∨ cl103.slots.size ≤ ((1 : Int32)).toNatClampNeg) := inb_of S103 ⟨by decide, by decide⟩
    obtain ⟨T104, h104, X104, e104, W104, st104⟩ := stJ X102 hx hZ e102 Ar103 (j := (1 : Int32)) hin103 (g := (mkF m 241 #[.val (.long q0), .second, .val (.long q1), .second, .val (.long q2), .second, .val (.long q3), .second, .val (.int p4), .val (.int v2), .val (.long (-9223372036854775808 : Int64)), .second, .val (.long q0), .second, .val (.long v4), .second, .val (.long v6), .second, .val (.long v8), .second, .val (.long v10), .second, .val (.long v12), .second, .val (.long v14), .second, .val (.long v16), .second, .val (.long v18), .second, .val (.long v20), .second, .val (.long v22), .second, .val (.long v24), .second, .val (.long v26), .second, .val (.long v28), .second, .unset, .unset] [(.long q1), (.int (1 : Int32)), (.ref b100), (.ref b100)])) rfl rfl (hb hby at_241)
    have V104 : Arv Z h104 b100 k100 .long (4 : Int32) [(.long q0), (.long q1), (.long (0 : Int64)), (.long (0 : Int64))] _ := Arv.set Ar103 qq103 S103 M103 H103 G103 rfl W104 1 rfl (Nat.le_of_ble_eq_true rfl)
    have N104 := Fr.snoc X104 N102 gnb100
    have Z104 : n0 ≤ h104.size := Nat.le_trans Z102 (Nat.le_of_eq W104.size.symm)
    obtain ⟨cl105, Ar105, qq105, S105, M105, H105, G105⟩ := id V104
    have hin105 : ¬ ((2 : Int32) < 0 ∨ cl105.slots.size ≤ ((2 : Int32)).toNatClampNeg) := inb_of S105 ⟨by decide, by decide⟩
    obtain ⟨T106, h106, X106, e106, W106, st106⟩ := stJ X104 hx hZ e104 Ar105 (j := (2 : Int32)) hin105 (g := (mkF m 246 #[.val (.long q0), .second, .val (.long q1), .second, .val (.long q2), .second, .val (.long q3), .second, .val (.int p4), .val (.int v2), .val (.long (-9223372036854775808 : Int64)), .second, .val (.long q0), .second, .val (.long v4), .second, .val (.long v6), .second, .val (.long v8), .second, .val (.long v10), .second, .val (.long v12), .second, .val (.long v14), .second, .val (.long v16), .second, .val (.long v18), .second, .val (.long v20), .second, .val (.long v22), .second, .val (.long v24), .second, .val (.long v26), .second, .val (.long v28), .second, .unset, .unset] [(.long q2), (.int (2 : Int32)), (.ref b100), (.ref b100)])) rfl rfl (hb hby at_246)
    have V106 : Arv Z h106 b100 k100 .long (4 : Int32) [(.long q0), (.long q1), (.long q2), (.long (0 : Int64))] _ := Arv.set Ar105 qq105 S105 M105 H105 G105 rfl W106 2 rfl (Nat.le_of_ble_eq_true rfl)
    have N106 := Fr.snoc X106 N104 gnb100
    have Z106 : n0 ≤ h106.size := Nat.le_trans Z104 (Nat.le_of_eq W106.size.symm)
    obtain ⟨cl107, Ar107, qq107, S107, M107, H107, G107⟩ := id V106
    have hin107 : ¬ ((3 : Int32) < 0 ∨ cl107.slots.size ≤ ((3 : Int32)).toNatClampNeg) := inb_of S107 ⟨by decide, by decide⟩
    obtain ⟨T108, h108, X108, e108, W108, st108⟩ := stJ X106 hx hZ e106 Ar107 (j := (3 : Int32)) hin107 (g := (mkF m 251 #[.val (.long q0), .second, .val (.long q1), .second, .val (.long q2), .second, .val (.long q3), .second, .val (.int p4), .val (.int v2), .val (.long (-9223372036854775808 : Int64)), .second, .val (.long q0), .second, .val (.long v4), .second, .val (.long v6), .second, .val (.long v8), .second, .val (.long v10), .second, .val (.long v12), .second, .val (.long v14), .second, .val (.long v16), .second, .val (.long v18), .second, .val (.long v20), .second, .val (.long v22), .second, .val (.long v24), .second, .val (.long v26), .second, .val (.long v28), .second, .unset, .unset] [(.long q3), (.int (3 : Int32)), (.ref b100), (.ref b100)])) rfl rfl (hb hby at_251)
    have V108 : Arv Z h108 b100 k100 .long (4 : Int32) [(.long q0), (.long q1), (.long q2), (.long q3)] _ := Arv.set Ar107 qq107 S107 M107 H107 G107 rfl W108 3 rfl (Nat.le_of_ble_eq_true rfl)
    have N108 := Fr.snoc X108 N106 gnb100
    have Z108 : n0 ≤ h108.size := Nat.le_trans Z106 (Nat.le_of_eq W108.size.symm)
    obtain ⟨_, _, ⟨T109, L109, k109, n109⟩, -, X109, ⟨Lc109, hQ109, l109, y109, z109⟩, st109⟩ := Jvm.LawKit.callS X108 hx (y := (⟨"com/example/firepick/firepick/TimeTags", "rank", "([J)V"⟩ : MethodName)) hown (mvT hZ (hw _ (List.mem_of_getElem? (i := 10) rfl))) (mvT hZ (hw _ (List.mem_of_getElem? (i := 11) rfl))) (mvT hZ (hw _ (List.mem_of_getElem? (i := 12) rfl))) (mvT hZ (hw _ (List.mem_of_getElem? (i := 13) rfl))) (by decide) (backOf (W := 0) (rm3n4 l Z a0 hw [] b100 k100 _ q0 q1 q2 q3 h108 n0 Z108 V108 gnb100) hZ (hw _ (List.mem_of_getElem? (i := 13) rfl)) (hw _ (List.mem_of_getElem? (i := 12) rfl)) (by decide) (by decide)) (g := (mkF m 256 #[.val (.long q0), .second, .val (.long q1), .second, .val (.long q2), .second, .val (.long q3), .second, .val (.int p4), .val (.int v2), .val (.long (-9223372036854775808 : Int64)), .second, .val (.long q0), .second, .val (.long v4), .second, .val (.long v6), .second, .val (.long v8), .second, .val (.long v10), .second, .val (.long v12), .second, .val (.long v14), .second, .val (.long v16), .second, .val (.long v18), .second, .val (.long v20), .second, .val (.long v22), .second, .val (.long v24), .second, .val (.long v26), .second, .val (.long v28), .second, .val (.ref b100), .unset] [(.ref b100)])) rfl (by rw [hml]; rfl) (argsL := [(.ref b100)]) (rest := []) (lenOf pd_1 rfl) rfl (by show 2 * 0 + _ ≤ _; exact Nat.le_of_eq rfl) (hb hby at_256) (fun _ _ => ⟨rfl, e108, (by decide : 1 + 0 ≤ _), (by decide : 4 + 0 ≤ _)⟩)
    dsimp only [Pt.U, Pt.locs, Pt.cells, Pt.slots] at X109 l109 y109 z109 st109 hQ109
    rw [l109, y109, z109] at X109
    obtain ⟨rfl, N109q, K109q, VR109⟩ := hQ109
    have N109 := Fr.app N108 N109q
    have Z109 : n0 ≤ T109.heap.size := Nat.le_trans Z108 K109q.1
    obtain ⟨cl110, Ar110, qq110, S110, M110, H110, G110⟩ := id VR109
    have hd264_111 : (4 : Int32) = v2 := by rw [hn5]; try decide
    have hd281_112 : (0 : Int32) < v2 := by rw [hn5]; try decide
    obtain ⟨cl113, Ar113, qq113, S113, M113, H113, G113⟩ := id VR109
    have hin113 : ¬ ((0 : Int32) < 0 ∨ cl113.slots.size ≤ ((0 : Int32)).toNatClampNeg) := inb_of S113 ⟨by decide, by decide⟩
    have hat113 : cl113.slots[((0 : Int32)).toNatClampNeg]? = some (.long (own_X (own_X q0 q1) (own_X q2 q3))) := H113 0 (by rw [S113]; decide)
    have hd291_114 : (own_X (own_X q0 q1) (own_X q2 q3)) = v18 := by simp only [ev10, ev12, ev14, ev16, ev18, ev20, ev22, ev24, ev26, ev28, xe0, xe1, xe2, own_x1, own_x2, own_n1, own_n2]
    have hd309_115 : (1 : Int32) < v2 := by rw [hn5]; try decide
    obtain ⟨cl116, Ar116, qq116, S116, M116, H116, G116⟩ := id VR109
    have hin116 : ¬ ((1 : Int32) < 0 ∨ cl116.slots.size ≤ ((1 : Int32)).toNatClampNeg) := inb_of S116 ⟨by decide, by decide⟩
    have hat116 : cl116.slots[((1 : Int32)).toNatClampNeg]? = some (.long (own_X (own_X (own_N q0 q1) (own_N q2 q3)) (own_N (own_X q0 q1) (own_X q2 q3)))) := H116 1 (by rw [S116]; decide)
    have hd319_117 : (own_X (own_X (own_N q0 q1) (own_N q2 q3)) (own_N (own_X q0 q1) (own_X q2 q3))) = v26 := by simp only [ev10, ev12, ev14, ev16, ev18, ev20, ev22, ev24, ev26, ev28, xe0, xe1, xe2, own_x1, own_x2, own_n1, own_n2]
    have hd337_118 : (2 : Int32) < v2 := by rw [hn5]; try decide
    obtain ⟨cl119, Ar119, qq119, S119, M119, H119, G119⟩ := id VR109
    have hin119 : ¬ ((2 : Int32) < 0 ∨ cl119.slots.size ≤ ((2 : Int32)).toNatClampNeg) := inb_of S119 ⟨by decide, by decide⟩
    have hat119 : cl119.slots[((2 : Int32)).toNatClampNeg]? = some (.long (own_N (own_X (own_N q0 q1) (own_N q2 q3)) (own_N (own_X q0 q1) (own_X q2 q3)))) := H119 2 (by rw [S119]; decide)
    have hd347_120 : (own_N (own_X (own_N q0 q1) (own_N q2 q3)) (own_N (own_X q0 q1) (own_X q2 q3))) = v28 := by simp only [ev10, ev12, ev14, ev16, ev18, ev20, ev22, ev24, ev26, ev28, xe0, xe1, xe2, own_x1, own_x2, own_n1, own_n2]
    have hd365_121 : (3 : Int32) < v2 := by rw [hn5]; try decide
    obtain ⟨cl122, Ar122, qq122, S122, M122, H122, G122⟩ := id VR109
    have hin122 : ¬ ((3 : Int32) < 0 ∨ cl122.slots.size ≤ ((3 : Int32)).toNatClampNeg) := inb_of S122 ⟨by decide, by decide⟩
    have hat122 : cl122.slots[((3 : Int32)).toNatClampNeg]? = some (.long (own_N (own_N q0 q1) (own_N q2 q3))) := H122 3 (by rw [S122]; decide)
    have hd375_123 : (own_N (own_N q0 q1) (own_N q2 q3)) = v24 := by simp only [ev10, ev12, ev14, ev16, ev18, ev20, ev22, ev24, ev26, ev28, xe0, xe1, xe2, own_x1, own_x2, own_n1, own_n2]
    obtain ⟨fs, hr, hrun, hended, hW, hsame⟩ := X109.leave (v := some (.int (1 : Int32))) (fun h => by rw [Bd.returns] at h; cases h)
    refine ⟨_, _, ?_, hrun, hended, _, _, rfl, ?_, ⟨_, rfl⟩, hW, hsame.mono (by decide) (by decide)⟩
    · show Steps p.tables e below (T27.setTop (mkF m 151 #[.val (.long q0), .second, .val (.long q1), .second, .val (.long q2), .second, .val (.long q3), .second, .val (.int p4), .val (.int v2), .val (.long (-9223372036854775808 : Int64)), .second, .val (.long q0), .second, .val (.long v4), .second, .val (.long v6), .second, .val (.long v8), .second, .val (.long v10), .second, .val (.long v12), .second, .val (.long v14), .second, .val (.long v16), .second, .val (.long v18), .second, .val (.long v20), .second, .val (.long v22), .second, .val (.long v24), .second, .val (.long v26), .second, .val (.long v28), .second, .unset, .unset] [])) _
      refine XS.iload X27.here hx rfl (hb hby at_151) rfl ?_
      show Steps p.tables e below (T27.setTop (mkF m 153 #[.val (.long q0), .second, .val (.long q1), .second, .val (.long q2), .second, .val (.long q3), .second, .val (.int p4), .val (.int v2), .val (.long (-9223372036854775808 : Int64)), .second, .val (.long q0), .second, .val (.long v4), .second, .val (.long v6), .second, .val (.long v8), .second, .val (.long v10), .second, .val (.long v12), .second, .val (.long v14), .second, .val (.long v16), .second, .val (.long v18), .second, .val (.long v20), .second, .val (.long v22), .second, .val (.long v24), .second, .val (.long v26), .second, .val (.long v28), .second, .unset, .unset] [(.int v2)])) _
      refine XS.ifYes X27.here hx rfl (pc0 := 153) (pc' := 164) rfl (hb hby at_153) rfl ((if0 _ _).trans (feq hd153_96).2) (by decide) (by decide) ?_
      refine XS.iload X27.here hx rfl (hb hby at_164) rfl ?_
      refine XS.iconst X27.here hx rfl (hb hby at_166) ?_
      show Steps p.tables e below (T27.setTop (mkF m 167 #[.val (.long q0), .second, .val (.long q1), .second, .val (.long q2), .second, .val (.long q3), .second, .val (.int p4), .val (.int v2), .val (.long (-9223372036854775808 : Int64)), .second, .val (.long q0), .second, .val (.long v4), .second, .val (.long v6), .second, .val (.long v8), .second, .val (.long v10), .second, .val (.long v12), .second, .val (.long v14), .second, .val (.long v16), .second, .val (.long v18), .second, .val (.long v20), .second, .val (.long v22), .second, .val (.long v24), .second, .val (.long v26), .second, .val (.long v28), .second, .unset, .unset] [(.int (1 : Int32)), (.int v2)])) _
      refine XS.icmpYes X27.here hx rfl (pc0 := 167) (pc' := 182) rfl (hb hby at_167) rfl (feq hd167_97).2 (by decide) (by decide) ?_
      refine XS.iload X27.here hx rfl (hb hby at_182) rfl ?_
      show Steps p.tables e below (T27.setTop (mkF m 184 #[.val (.long q0), .second, .val (.long q1), .second, .val (.long q2), .second, .val (.long q3), .second, .val (.int p4), .val (.int v2), .val (.long (-9223372036854775808 : Int64)), .second, .val (.long q0), .second, .val (.long v4), .second, .val (.long v6), .second, .val (.long v8), .second, .val (.long v10), .second, .val (.long v12), .second, .val (.long v14), .second, .val (.long v16), .second, .val (.long v18), .second, .val (.long v20), .second, .val (.long v22), .second, .val (.long v24), .second, .val (.long v26), .second, .val (.long v28), .second, .unset, .unset] [(.int v2)])) _
      refine XS.iconst X27.here hx rfl (hb hby at_184) ?_
      show Steps p.tables e below (T27.setTop (mkF m 185 #[.val (.long q0), .second, .val (.long q1), .second, .val (.long q2), .second, .val (.long q3), .second, .val (.int p4), .val (.int v2), .val (.long (-9223372036854775808 : Int64)), .second, .val (.long q0), .second, .val (.long v4), .second, .val (.long v6), .second, .val (.long v8), .second, .val (.long v10), .second, .val (.long v12), .second, .val (.long v14), .second, .val (.long v16), .second, .val (.long v18), .second, .val (.long v20), .second, .val (.long v22), .second, .val (.long v24), .second, .val (.long v26), .second, .val (.long v28), .second, .unset, .unset] [(.int (2 : Int32)), (.int v2)])) _
      refine XS.icmpYes X27.here hx rfl (pc0 := 185) (pc' := 204) rfl (hb hby at_185) rfl (feq hd185_98).2 (by decide) (by decide) ?_
      refine XS.iload X27.here hx rfl (hb hby at_204) rfl ?_
      refine XS.iconst X27.here hx rfl (hb hby at_206) ?_
      show Steps p.tables e below (T27.setTop (mkF m 207 #[.val (.long q0), .second, .val (.long q1), .second, .val (.long q2), .second, .val (.long q3), .second, .val (.int p4), .val (.int v2), .val (.long (-9223372036854775808 : Int64)), .second, .val (.long q0), .second, .val (.long v4), .second, .val (.long v6), .second, .val (.long v8), .second, .val (.long v10), .second, .val (.long v12), .second, .val (.long v14), .second, .val (.long v16), .second, .val (.long v18), .second, .val (.long v20), .second, .val (.long v22), .second, .val (.long v24), .second, .val (.long v26), .second, .val (.long v28), .second, .unset, .unset] [(.int (3 : Int32)), (.int v2)])) _
      refine XS.icmpYes X27.here hx rfl (pc0 := 207) (pc' := 231) rfl (hb hby at_207) rfl (feq hd207_99).2 (by decide) (by decide) ?_
      refine XS.iconst X27.here hx rfl (hb hby at_231) ?_
      show Steps p.tables e below (T27.setTop (mkF m 232 #[.val (.long q0), .second, .val (.long q1), .second, .val (.long q2), .second, .val (.long q3), .second, .val (.int p4), .val (.int v2), .val (.long (-9223372036854775808 : Int64)), .second, .val (.long q0), .second, .val (.long v4), .second, .val (.long v6), .second, .val (.long v8), .second, .val (.long v10), .second, .val (.long v12), .second, .val (.long v14), .second, .val (.long v16), .second, .val (.long v18), .second, .val (.long v20), .second, .val (.long v22), .second, .val (.long v24), .second, .val (.long v26), .second, .val (.long v28), .second, .unset, .unset] [(.int (4 : Int32))])) _
      refine st100 _ ?_
      refine XS.dup X100.here hx rfl (hb hby at_234) rfl rfl ?_
      refine XS.iconst X100.here hx rfl (hb hby at_235) ?_
      refine XS.lloadN X100.here hx rfl (hb hby at_236) rfl ?_
      show Steps p.tables e below (T100.setTop (mkF m 237 #[.val (.long q0), .second, .val (.long q1), .second, .val (.long q2), .second, .val (.long q3), .second, .val (.int p4), .val (.int v2), .val (.long (-9223372036854775808 : Int64)), .second, .val (.long q0), .second, .val (.long v4), .second, .val (.long v6), .second, .val (.long v8), .second, .val (.long v10), .second, .val (.long v12), .second, .val (.long v14), .second, .val (.long v16), .second, .val (.long v18), .second, .val (.long v20), .second, .val (.long v22), .second, .val (.long v24), .second, .val (.long v26), .second, .val (.long v28), .second, .unset, .unset] [(.long q0), (.int (0 : Int32)), (.ref b100), (.ref b100)])) _
      refine st102 _ ?_
      refine XS.dup X102.here hx rfl (hb hby at_238) rfl rfl ?_
      refine XS.iconst X102.here hx rfl (hb hby at_239) ?_
      refine XS.lloadN X102.here hx rfl (hb hby at_240) rfl ?_
      show Steps p.tables e below (T102.setTop (mkF m 241 #[.val (.long q0), .second, .val (.long q1), .second, .val (.long q2), .second, .val (.long q3), .second, .val (.int p4), .val (.int v2), .val (.long (-9223372036854775808 : Int64)), .second, .val (.long q0), .second, .val (.long v4), .second, .val (.long v6), .second, .val (.long v8), .second, .val (.long v10), .second, .val (.long v12), .second, .val (.long v14), .second, .val (.long v16), .second, .val (.long v18), .second, .val (.long v20), .second, .val (.long v22), .second, .val (.long v24), .second, .val (.long v26), .second, .val (.long v28), .second, .unset, .unset] [(.long q1), (.int (1 : Int32)), (.ref b100), (.ref b100)])) _
      refine st104 _ ?_
      refine XS.dup X104.here hx rfl (hb hby at_242) rfl rfl ?_
      refine XS.iconst X104.here hx rfl (hb hby at_243) ?_
      refine XS.lload X104.here hx rfl (hb hby at_244) rfl ?_
      show Steps p.tables e below (T104.setTop (mkF m 246 #[.val (.long q0), .second, .val (.long q1), .second, .val (.long q2), .second, .val (.long q3), .second, .val (.int p4), .val (.int v2), .val (.long (-9223372036854775808 : Int64)), .second, .val (.long q0), .second, .val (.long v4), .second, .val (.long v6), .second, .val (.long v8), .second, .val (.long v10), .second, .val (.long v12), .second, .val (.long v14), .second, .val (.long v16), .second, .val (.long v18), .second, .val (.long v20), .second, .val (.long v22), .second, .val (.long v24), .second, .val (.long v26), .second, .val (.long v28), .second, .unset, .unset] [(.long q2), (.int (2 : Int32)), (.ref b100), (.ref b100)])) _
      refine st106 _ ?_
      refine XS.dup X106.here hx rfl (hb hby at_247) rfl rfl ?_
      refine XS.iconst X106.here hx rfl (hb hby at_248) ?_
      refine XS.lload X106.here hx rfl (hb hby at_249) rfl ?_
      show Steps p.tables e below (T106.setTop (mkF m 251 #[.val (.long q0), .second, .val (.long q1), .second, .val (.long q2), .second, .val (.long q3), .second, .val (.int p4), .val (.int v2), .val (.long (-9223372036854775808 : Int64)), .second, .val (.long q0), .second, .val (.long v4), .second, .val (.long v6), .second, .val (.long v8), .second, .val (.long v10), .second, .val (.long v12), .second, .val (.long v14), .second, .val (.long v16), .second, .val (.long v18), .second, .val (.long v20), .second, .val (.long v22), .second, .val (.long v24), .second, .val (.long v26), .second, .val (.long v28), .second, .unset, .unset] [(.long q3), (.int (3 : Int32)), (.ref b100), (.ref b100)])) _
      refine st108 _ ?_
      refine XS.astore X108.here hx rfl (hb hby at_252) rfl rfl (l' := #[.val (.long q0), .second, .val (.long q1), .second, .val (.long q2), .second, .val (.long q3), .second, .val (.int p4), .val (.int v2), .val (.long (-9223372036854775808 : Int64)), .second, .val (.long q0), .second, .val (.long v4), .second, .val (.long v6), .second, .val (.long v8), .second, .val (.long v10), .second, .val (.long v12), .second, .val (.long v14), .second, .val (.long v16), .second, .val (.long v18), .second, .val (.long v20), .second, .val (.long v22), .second, .val (.long v24), .second, .val (.long v26), .second, .val (.long v28), .second, .val (.ref b100), .unset]) rfl ?_
      refine XS.aload X108.here hx rfl (hb hby at_254) rfl rfl ?_
      refine st109 _ ?_
      show Steps p.tables e below (T109.setTop (mkF m 259 #[.val (.long q0), .second, .val (.long q1), .second, .val (.long q2), .second, .val (.long q3), .second, .val (.int p4), .val (.int v2), .val (.long (-9223372036854775808 : Int64)), .second, .val (.long q0), .second, .val (.long v4), .second, .val (.long v6), .second, .val (.long v8), .second, .val (.long v10), .second, .val (.long v12), .second, .val (.long v14), .second, .val (.long v16), .second, .val (.long v18), .second, .val (.long v20), .second, .val (.long v22), .second, .val (.long v24), .second, .val (.long v26), .second, .val (.long v28), .second, .val (.ref b100), .unset] [])) _
      refine XS.aload X109.here hx rfl (hb hby at_259) rfl rfl ?_
      refine X109.arraylength hx Ar110.1 (State.isArrayOf_alike hZ.alike Ar110.2.1) (g := (mkF m 261 #[.val (.long q0), .second, .val (.long q1), .second, .val (.long q2), .second, .val (.long q3), .second, .val (.int p4), .val (.int v2), .val (.long (-9223372036854775808 : Int64)), .second, .val (.long q0), .second, .val (.long v4), .second, .val (.long v6), .second, .val (.long v8), .second, .val (.long v10), .second, .val (.long v12), .second, .val (.long v14), .second, .val (.long v16), .second, .val (.long v18), .second, .val (.long v20), .second, .val (.long v22), .second, .val (.long v24), .second, .val (.long v26), .second, .val (.long v28), .second, .val (.ref b100), .unset] [(.ref b100)])) rfl rfl (hb hby at_261) _ ?_
      rw [len_of S110 M110]
      refine XS.iload X109.here hx rfl (hb hby at_262) rfl ?_
      show Steps p.tables e below (T109.setTop (mkF m 264 #[.val (.long q0), .second, .val (.long q1), .second, .val (.long q2), .second, .val (.long q3), .second, .val (.int p4), .val (.int v2), .val (.long (-9223372036854775808 : Int64)), .second, .val (.long q0), .second, .val (.long v4), .second, .val (.long v6), .second, .val (.long v8), .second, .val (.long v10), .second, .val (.long v12), .second, .val (.long v14), .second, .val (.long v16), .second, .val (.long v18), .second, .val (.long v20), .second, .val (.long v22), .second, .val (.long v24), .second, .val (.long v26), .second, .val (.long v28), .second, .val (.ref b100), .unset] [(.int v2), (.int (4 : Int32))])) _
      refine XS.icmpNo X109.here hx rfl (hb hby at_264) rfl (teq hd264_111).2 ?_
      refine XS.iconst X109.here hx rfl (hb hby at_267) ?_
      show Steps p.tables e below (T109.setTop (mkF m 268 #[.val (.long q0), .second, .val (.long q1), .second, .val (.long q2), .second, .val (.long q3), .second, .val (.int p4), .val (.int v2), .val (.long (-9223372036854775808 : Int64)), .second, .val (.long q0), .second, .val (.long v4), .second, .val (.long v6), .second, .val (.long v8), .second, .val (.long v10), .second, .val (.long v12), .second, .val (.long v14), .second, .val (.long v16), .second, .val (.long v18), .second, .val (.long v20), .second, .val (.long v22), .second, .val (.long v24), .second, .val (.long v26), .second, .val (.long v28), .second, .val (.ref b100), .unset] [(.int (1 : Int32))])) _
      refine XS.goto X109.here hx rfl (pc0 := 268) (pc' := 272) rfl (hb hby at_268) (by decide) (by decide) ?_
      show Steps p.tables e below (T109.setTop (mkF m 272 #[.val (.long q0), .second, .val (.long q1), .second, .val (.long q2), .second, .val (.long q3), .second, .val (.int p4), .val (.int v2), .val (.long (-9223372036854775808 : Int64)), .second, .val (.long q0), .second, .val (.long v4), .second, .val (.long v6), .second, .val (.long v8), .second, .val (.long v10), .second, .val (.long v12), .second, .val (.long v14), .second, .val (.long v16), .second, .val (.long v18), .second, .val (.long v20), .second, .val (.long v22), .second, .val (.long v24), .second, .val (.long v26), .second, .val (.long v28), .second, .val (.ref b100), .unset] [(.int (1 : Int32))])) _
      refine XS.istore X109.here hx rfl (hb hby at_272) rfl (l' := #[.val (.long q0), .second, .val (.long q1), .second, .val (.long q2), .second, .val (.long q3), .second, .val (.int p4), .val (.int v2), .val (.long (-9223372036854775808 : Int64)), .second, .val (.long q0), .second, .val (.long v4), .second, .val (.long v6), .second, .val (.long v8), .second, .val (.long v10), .second, .val (.long v12), .second, .val (.long v14), .second, .val (.long v16), .second, .val (.long v18), .second, .val (.long v20), .second, .val (.long v22), .second, .val (.long v24), .second, .val (.long v26), .second, .val (.long v28), .second, .val (.ref b100), .val (.int (1 : Int32))]) rfl ?_
      refine XS.iload X109.here hx rfl (hb hby at_274) rfl ?_
      show Steps p.tables e below (T109.setTop (mkF m 276 #[.val (.long q0), .second, .val (.long q1), .second, .val (.long q2), .second, .val (.long q3), .second, .val (.int p4), .val (.int v2), .val (.long (-9223372036854775808 : Int64)), .second, .val (.long q0), .second, .val (.long v4), .second, .val (.long v6), .second, .val (.long v8), .second, .val (.long v10), .second, .val (.long v12), .second, .val (.long v14), .second, .val (.long v16), .second, .val (.long v18), .second, .val (.long v20), .second, .val (.long v22), .second, .val (.long v24), .second, .val (.long v26), .second, .val (.long v28), .second, .val (.ref b100), .val (.int (1 : Int32))] [(.int (1 : Int32))])) _
      refine XS.ifNo X109.here hx rfl (hb hby at_276) rfl ((if0 _ _).trans (feq (by decide : ¬ ((1 : Int32) = (0 : Int32)))).1) ?_
      refine XS.iload X109.here hx rfl (hb hby at_279) rfl ?_
      show Steps p.tables e below (T109.setTop (mkF m 281 #[.val (.long q0), .second, .val (.long q1), .second, .val (.long q2), .second, .val (.long q3), .second, .val (.int p4), .val (.int v2), .val (.long (-9223372036854775808 : Int64)), .second, .val (.long q0), .second, .val (.long v4), .second, .val (.long v6), .second, .val (.long v8), .second, .val (.long v10), .second, .val (.long v12), .second, .val (.long v14), .second, .val (.long v16), .second, .val (.long v18), .second, .val (.long v20), .second, .val (.long v22), .second, .val (.long v24), .second, .val (.long v26), .second, .val (.long v28), .second, .val (.ref b100), .val (.int (1 : Int32))] [(.int v2)])) _
      refine XS.ifNo X109.here hx rfl (hb hby at_281) rfl ((if0 _ _).trans (tlt hd281_112).2.2.2) ?_
      refine XS.aload X109.here hx rfl (hb hby at_284) rfl rfl ?_
      show Steps p.tables e below (T109.setTop (mkF m 286 #[.val (.long q0), .second, .val (.long q1), .second, .val (.long q2), .second, .val (.long q3), .second, .val (.int p4), .val (.int v2), .val (.long (-9223372036854775808 : Int64)), .second, .val (.long q0), .second, .val (.long v4), .second, .val (.long v6), .second, .val (.long v8), .second, .val (.long v10), .second, .val (.long v12), .second, .val (.long v14), .second, .val (.long v16), .second, .val (.long v18), .second, .val (.long v20), .second, .val (.long v22), .second, .val (.long v24), .second, .val (.long v26), .second, .val (.long v28), .second, .val (.ref b100), .val (.int (1 : Int32))] [(.ref b100)])) _
      refine XS.iconst X109.here hx rfl (hb hby at_286) ?_
      refine X109.laload hx (j := (0 : Int32)) (v := (.long (own_X (own_X q0 q1) (own_X q2 q3)))) Ar113.1 (State.isArrayOf_alike hZ.alike Ar113.2.1) Ar113.2.2 hin113 hat113 (g := (mkF m 287 #[.val (.long q0), .second, .val (.long q1), .second, .val (.long q2), .second, .val (.long q3), .second, .val (.int p4), .val (.int v2), .val (.long (-9223372036854775808 : Int64)), .second, .val (.long q0), .second, .val (.long v4), .second, .val (.long v6), .second, .val (.long v8), .second, .val (.long v10), .second, .val (.long v12), .second, .val (.long v14), .second, .val (.long v16), .second, .val (.long v18), .second, .val (.long v20), .second, .val (.long v22), .second, .val (.long v24), .second, .val (.long v26), .second, .val (.long v28), .second, .val (.ref b100), .val (.int (1 : Int32))] [(.int (0 : Int32)), (.ref b100)])) rfl rfl (hb hby at_287) _ ?_
      refine XS.lload X109.here hx rfl (hb hby at_288) rfl ?_
      refine XS.lcmp X109.here hx rfl (hb hby at_290) rfl ?_
      show Steps p.tables e below (T109.setTop (mkF m 291 #[.val (.long q0), .second, .val (.long q1), .second, .val (.long q2), .second, .val (.long q3), .second, .val (.int p4), .val (.int v2), .val (.long (-9223372036854775808 : Int64)), .second, .val (.long q0), .second, .val (.long v4), .second, .val (.long v6), .second, .val (.long v8), .second, .val (.long v10), .second, .val (.long v12), .second, .val (.long v14), .second, .val (.long v16), .second, .val (.long v18), .second, .val (.long v20), .second, .val (.long v22), .second, .val (.long v24), .second, .val (.long v26), .second, .val (.long v28), .second, .val (.ref b100), .val (.int (1 : Int32))] [(.int (lcmpW (own_X (own_X q0 q1) (own_X q2 q3)) v18))])) _
      refine XS.ifNo X109.here hx rfl (hb hby at_291) rfl ((if0 _ _).trans (teq ((lw_eq (own_X (own_X q0 q1) (own_X q2 q3)) v18).mpr hd291_114)).2) ?_
      show Steps p.tables e below (T109.setTop (mkF m 294 #[.val (.long q0), .second, .val (.long q1), .second, .val (.long q2), .second, .val (.long q3), .second, .val (.int p4), .val (.int v2), .val (.long (-9223372036854775808 : Int64)), .second, .val (.long q0), .second, .val (.long v4), .second, .val (.long v6), .second, .val (.long v8), .second, .val (.long v10), .second, .val (.long v12), .second, .val (.long v14), .second, .val (.long v16), .second, .val (.long v18), .second, .val (.long v20), .second, .val (.long v22), .second, .val (.long v24), .second, .val (.long v26), .second, .val (.long v28), .second, .val (.ref b100), .val (.int (1 : Int32))] [])) _
      refine XS.iconst X109.here hx rfl (hb hby at_294) ?_
      show Steps p.tables e below (T109.setTop (mkF m 295 #[.val (.long q0), .second, .val (.long q1), .second, .val (.long q2), .second, .val (.long q3), .second, .val (.int p4), .val (.int v2), .val (.long (-9223372036854775808 : Int64)), .second, .val (.long q0), .second, .val (.long v4), .second, .val (.long v6), .second, .val (.long v8), .second, .val (.long v10), .second, .val (.long v12), .second, .val (.long v14), .second, .val (.long v16), .second, .val (.long v18), .second, .val (.long v20), .second, .val (.long v22), .second, .val (.long v24), .second, .val (.long v26), .second, .val (.long v28), .second, .val (.ref b100), .val (.int (1 : Int32))] [(.int (1 : Int32))])) _
      refine XS.goto X109.here hx rfl (pc0 := 295) (pc' := 299) rfl (hb hby at_295) (by decide) (by decide) ?_
      refine XS.istore X109.here hx rfl (hb hby at_299) rfl (l' := #[.val (.long q0), .second, .val (.long q1), .second, .val (.long q2), .second, .val (.long q3), .second, .val (.int p4), .val (.int v2), .val (.long (-9223372036854775808 : Int64)), .second, .val (.long q0), .second, .val (.long v4), .second, .val (.long v6), .second, .val (.long v8), .second, .val (.long v10), .second, .val (.long v12), .second, .val (.long v14), .second, .val (.long v16), .second, .val (.long v18), .second, .val (.long v20), .second, .val (.long v22), .second, .val (.long v24), .second, .val (.long v26), .second, .val (.long v28), .second, .val (.ref b100), .val (.int (1 : Int32))]) rfl ?_
      refine XS.iload X109.here hx rfl (hb hby at_301) rfl ?_
      show Steps p.tables e below (T109.setTop (mkF m 303 #[.val (.long q0), .second, .val (.long q1), .second, .val (.long q2), .second, .val (.long q3), .second, .val (.int p4), .val (.int v2), .val (.long (-9223372036854775808 : Int64)), .second, .val (.long q0), .second, .val (.long v4), .second, .val (.long v6), .second, .val (.long v8), .second, .val (.long v10), .second, .val (.long v12), .second, .val (.long v14), .second, .val (.long v16), .second, .val (.long v18), .second, .val (.long v20), .second, .val (.long v22), .second, .val (.long v24), .second, .val (.long v26), .second, .val (.long v28), .second, .val (.ref b100), .val (.int (1 : Int32))] [(.int (1 : Int32))])) _
      refine XS.ifNo X109.here hx rfl (hb hby at_303) rfl ((if0 _ _).trans (feq (by decide : ¬ ((1 : Int32) = (0 : Int32)))).1) ?_
      refine XS.iload X109.here hx rfl (hb hby at_306) rfl ?_
      show Steps p.tables e below (T109.setTop (mkF m 308 #[.val (.long q0), .second, .val (.long q1), .second, .val (.long q2), .second, .val (.long q3), .second, .val (.int p4), .val (.int v2), .val (.long (-9223372036854775808 : Int64)), .second, .val (.long q0), .second, .val (.long v4), .second, .val (.long v6), .second, .val (.long v8), .second, .val (.long v10), .second, .val (.long v12), .second, .val (.long v14), .second, .val (.long v16), .second, .val (.long v18), .second, .val (.long v20), .second, .val (.long v22), .second, .val (.long v24), .second, .val (.long v26), .second, .val (.long v28), .second, .val (.ref b100), .val (.int (1 : Int32))] [(.int v2)])) _
      refine XS.iconst X109.here hx rfl (hb hby at_308) ?_
      show Steps p.tables e below (T109.setTop (mkF m 309 #[.val (.long q0), .second, .val (.long q1), .second, .val (.long q2), .second, .val (.long q3), .second, .val (.int p4), .val (.int v2), .val (.long (-9223372036854775808 : Int64)), .second, .val (.long q0), .second, .val (.long v4), .second, .val (.long v6), .second, .val (.long v8), .second, .val (.long v10), .second, .val (.long v12), .second, .val (.long v14), .second, .val (.long v16), .second, .val (.long v18), .second, .val (.long v20), .second, .val (.long v22), .second, .val (.long v24), .second, .val (.long v26), .second, .val (.long v28), .second, .val (.ref b100), .val (.int (1 : Int32))] [(.int (1 : Int32)), (.int v2)])) _
      refine XS.icmpNo X109.here hx rfl (hb hby at_309) rfl (tlt hd309_115).2.2.2 ?_
      refine XS.aload X109.here hx rfl (hb hby at_312) rfl rfl ?_
      refine XS.iconst X109.here hx rfl (hb hby at_314) ?_
      refine X109.laload hx (j := (1 : Int32)) (v := (.long (own_X (own_X (own_N q0 q1) (own_N q2 q3)) (own_N (own_X q0 q1) (own_X q2 q3))))) Ar116.1 (State.isArrayOf_alike hZ.alike Ar116.2.1) Ar116.2.2 hin116 hat116 (g := (mkF m 315 #[.val (.long q0), .second, .val (.long q1), .second, .val (.long q2), .second, .val (.long q3), .second, .val (.int p4), .val (.int v2), .val (.long (-9223372036854775808 : Int64)), .second, .val (.long q0), .second, .val (.long v4), .second, .val (.long v6), .second, .val (.long v8), .second, .val (.long v10), .second, .val (.long v12), .second, .val (.long v14), .second, .val (.long v16), .second, .val (.long v18), .second, .val (.long v20), .second, .val (.long v22), .second, .val (.long v24), .second, .val (.long v26), .second, .val (.long v28), .second, .val (.ref b100), .val (.int (1 : Int32))] [(.int (1 : Int32)), (.ref b100)])) rfl rfl (hb hby at_315) _ ?_
      show Steps p.tables e below (T109.setTop (mkF m 316 #[.val (.long q0), .second, .val (.long q1), .second, .val (.long q2), .second, .val (.long q3), .second, .val (.int p4), .val (.int v2), .val (.long (-9223372036854775808 : Int64)), .second, .val (.long q0), .second, .val (.long v4), .second, .val (.long v6), .second, .val (.long v8), .second, .val (.long v10), .second, .val (.long v12), .second, .val (.long v14), .second, .val (.long v16), .second, .val (.long v18), .second, .val (.long v20), .second, .val (.long v22), .second, .val (.long v24), .second, .val (.long v26), .second, .val (.long v28), .second, .val (.ref b100), .val (.int (1 : Int32))] [(.long (own_X (own_X (own_N q0 q1) (own_N q2 q3)) (own_N (own_X q0 q1) (own_X q2 q3))))])) _
      refine XS.lload X109.here hx rfl (hb hby at_316) rfl ?_
      refine XS.lcmp X109.here hx rfl (hb hby at_318) rfl ?_
      show Steps p.tables e below (T109.setTop (mkF m 319 #[.val (.long q0), .second, .val (.long q1), .second, .val (.long q2), .second, .val (.long q3), .second, .val (.int p4), .val (.int v2), .val (.long (-9223372036854775808 : Int64)), .second, .val (.long q0), .second, .val (.long v4), .second, .val (.long v6), .second, .val (.long v8), .second, .val (.long v10), .second, .val (.long v12), .second, .val (.long v14), .second, .val (.long v16), .second, .val (.long v18), .second, .val (.long v20), .second, .val (.long v22), .second, .val (.long v24), .second, .val (.long v26), .second, .val (.long v28), .second, .val (.ref b100), .val (.int (1 : Int32))] [(.int (lcmpW (own_X (own_X (own_N q0 q1) (own_N q2 q3)) (own_N (own_X q0 q1) (own_X q2 q3))) v26))])) _
      refine XS.ifNo X109.here hx rfl (hb hby at_319) rfl ((if0 _ _).trans (teq ((lw_eq (own_X (own_X (own_N q0 q1) (own_N q2 q3)) (own_N (own_X q0 q1) (own_X q2 q3))) v26).mpr hd319_117)).2) ?_
      refine XS.iconst X109.here hx rfl (hb hby at_322) ?_
      show Steps p.tables e below (T109.setTop (mkF m 323 #[.val (.long q0), .second, .val (.long q1), .second, .val (.long q2), .second, .val (.long q3), .second, .val (.int p4), .val (.int v2), .val (.long (-9223372036854775808 : Int64)), .second, .val (.long q0), .second, .val (.long v4), .second, .val (.long v6), .second, .val (.long v8), .second, .val (.long v10), .second, .val (.long v12), .second, .val (.long v14), .second, .val (.long v16), .second, .val (.long v18), .second, .val (.long v20), .second, .val (.long v22), .second, .val (.long v24), .second, .val (.long v26), .second, .val (.long v28), .second, .val (.ref b100), .val (.int (1 : Int32))] [(.int (1 : Int32))])) _
      refine XS.goto X109.here hx rfl (pc0 := 323) (pc' := 327) rfl (hb hby at_323) (by decide) (by decide) ?_
      refine XS.istore X109.here hx rfl (hb hby at_327) rfl (l' := #[.val (.long q0), .second, .val (.long q1), .second, .val (.long q2), .second, .val (.long q3), .second, .val (.int p4), .val (.int v2), .val (.long (-9223372036854775808 : Int64)), .second, .val (.long q0), .second, .val (.long v4), .second, .val (.long v6), .second, .val (.long v8), .second, .val (.long v10), .second, .val (.long v12), .second, .val (.long v14), .second, .val (.long v16), .second, .val (.long v18), .second, .val (.long v20), .second, .val (.long v22), .second, .val (.long v24), .second, .val (.long v26), .second, .val (.long v28), .second, .val (.ref b100), .val (.int (1 : Int32))]) rfl ?_
      show Steps p.tables e below (T109.setTop (mkF m 329 #[.val (.long q0), .second, .val (.long q1), .second, .val (.long q2), .second, .val (.long q3), .second, .val (.int p4), .val (.int v2), .val (.long (-9223372036854775808 : Int64)), .second, .val (.long q0), .second, .val (.long v4), .second, .val (.long v6), .second, .val (.long v8), .second, .val (.long v10), .second, .val (.long v12), .second, .val (.long v14), .second, .val (.long v16), .second, .val (.long v18), .second, .val (.long v20), .second, .val (.long v22), .second, .val (.long v24), .second, .val (.long v26), .second, .val (.long v28), .second, .val (.ref b100), .val (.int (1 : Int32))] [])) _
      refine XS.iload X109.here hx rfl (hb hby at_329) rfl ?_
      show Steps p.tables e below (T109.setTop (mkF m 331 #[.val (.long q0), .second, .val (.long q1), .second, .val (.long q2), .second, .val (.long q3), .second, .val (.int p4), .val (.int v2), .val (.long (-9223372036854775808 : Int64)), .second, .val (.long q0), .second, .val (.long v4), .second, .val (.long v6), .second, .val (.long v8), .second, .val (.long v10), .second, .val (.long v12), .second, .val (.long v14), .second, .val (.long v16), .second, .val (.long v18), .second, .val (.long v20), .second, .val (.long v22), .second, .val (.long v24), .second, .val (.long v26), .second, .val (.long v28), .second, .val (.ref b100), .val (.int (1 : Int32))] [(.int (1 : Int32))])) _
      refine XS.ifNo X109.here hx rfl (hb hby at_331) rfl ((if0 _ _).trans (feq (by decide : ¬ ((1 : Int32) = (0 : Int32)))).1) ?_
      refine XS.iload X109.here hx rfl (hb hby at_334) rfl ?_
      refine XS.iconst X109.here hx rfl (hb hby at_336) ?_
      show Steps p.tables e below (T109.setTop (mkF m 337 #[.val (.long q0), .second, .val (.long q1), .second, .val (.long q2), .second, .val (.long q3), .second, .val (.int p4), .val (.int v2), .val (.long (-9223372036854775808 : Int64)), .second, .val (.long q0), .second, .val (.long v4), .second, .val (.long v6), .second, .val (.long v8), .second, .val (.long v10), .second, .val (.long v12), .second, .val (.long v14), .second, .val (.long v16), .second, .val (.long v18), .second, .val (.long v20), .second, .val (.long v22), .second, .val (.long v24), .second, .val (.long v26), .second, .val (.long v28), .second, .val (.ref b100), .val (.int (1 : Int32))] [(.int (2 : Int32)), (.int v2)])) _
      refine XS.icmpNo X109.here hx rfl (hb hby at_337) rfl (tlt hd337_118).2.2.2 ?_
      refine XS.aload X109.here hx rfl (hb hby at_340) rfl rfl ?_
      show Steps p.tables e below (T109.setTop (mkF m 342 #[.val (.long q0), .second, .val (.long q1), .second, .val (.long q2), .second, .val (.long q3), .second, .val (.int p4), .val (.int v2), .val (.long (-9223372036854775808 : Int64)), .second, .val (.long q0), .second, .val (.long v4), .second, .val (.long v6), .second, .val (.long v8), .second, .val (.long v10), .second, .val (.long v12), .second, .val (.long v14), .second, .val (.long v16), .second, .val (.long v18), .second, .val (.long v20), .second, .val (.long v22), .second, .val (.long v24), .second, .val (.long v26), .second, .val (.long v28), .second, .val (.ref b100), .val (.int (1 : Int32))] [(.ref b100)])) _
      refine XS.iconst X109.here hx rfl (hb hby at_342) ?_
      refine X109.laload hx (j := (2 : Int32)) (v := (.long (own_N (own_X (own_N q0 q1) (own_N q2 q3)) (own_N (own_X q0 q1) (own_X q2 q3))))) Ar119.1 (State.isArrayOf_alike hZ.alike Ar119.2.1) Ar119.2.2 hin119 hat119 (g := (mkF m 343 #[.val (.long q0), .second, .val (.long q1), .second, .val (.long q2), .second, .val (.long q3), .second, .val (.int p4), .val (.int v2), .val (.long (-9223372036854775808 : Int64)), .second, .val (.long q0), .second, .val (.long v4), .second, .val (.long v6), .second, .val (.long v8), .second, .val (.long v10), .second, .val (.long v12), .second, .val (.long v14), .second, .val (.long v16), .second, .val (.long v18), .second, .val (.long v20), .second, .val (.long v22), .second, .val (.long v24), .second, .val (.long v26), .second, .val (.long v28), .second, .val (.ref b100), .val (.int (1 : Int32))] [(.int (2 : Int32)), (.ref b100)])) rfl rfl (hb hby at_343) _ ?_
      refine XS.lload X109.here hx rfl (hb hby at_344) rfl ?_
      refine XS.lcmp X109.here hx rfl (hb hby at_346) rfl ?_
      show Steps p.tables e below (T109.setTop (mkF m 347 #[.val (.long q0), .second, .val (.long q1), .second, .val (.long q2), .second, .val (.long q3), .second, .val (.int p4), .val (.int v2), .val (.long (-9223372036854775808 : Int64)), .second, .val (.long q0), .second, .val (.long v4), .second, .val (.long v6), .second, .val (.long v8), .second, .val (.long v10), .second, .val (.long v12), .second, .val (.long v14), .second, .val (.long v16), .second, .val (.long v18), .second, .val (.long v20), .second, .val (.long v22), .second, .val (.long v24), .second, .val (.long v26), .second, .val (.long v28), .second, .val (.ref b100), .val (.int (1 : Int32))] [(.int (lcmpW (own_N (own_X (own_N q0 q1) (own_N q2 q3)) (own_N (own_X q0 q1) (own_X q2 q3))) v28))])) _
      refine XS.ifNo X109.here hx rfl (hb hby at_347) rfl ((if0 _ _).trans (teq ((lw_eq (own_N (own_X (own_N q0 q1) (own_N q2 q3)) (own_N (own_X q0 q1) (own_X q2 q3))) v28).mpr hd347_120)).2) ?_
      show Steps p.tables e below (T109.setTop (mkF m 350 #[.val (.long q0), .second, .val (.long q1), .second, .val (.long q2), .second, .val (.long q3), .second, .val (.int p4), .val (.int v2), .val (.long (-9223372036854775808 : Int64)), .second, .val (.long q0), .second, .val (.long v4), .second, .val (.long v6), .second, .val (.long v8), .second, .val (.long v10), .second, .val (.long v12), .second, .val (.long v14), .second, .val (.long v16), .second, .val (.long v18), .second, .val (.long v20), .second, .val (.long v22), .second, .val (.long v24), .second, .val (.long v26), .second, .val (.long v28), .second, .val (.ref b100), .val (.int (1 : Int32))] [])) _
      refine XS.iconst X109.here hx rfl (hb hby at_350) ?_
      show Steps p.tables e below (T109.setTop (mkF m 351 #[.val (.long q0), .second, .val (.long q1), .second, .val (.long q2), .second, .val (.long q3), .second, .val (.int p4), .val (.int v2), .val (.long (-9223372036854775808 : Int64)), .second, .val (.long q0), .second, .val (.long v4), .second, .val (.long v6), .second, .val (.long v8), .second, .val (.long v10), .second, .val (.long v12), .second, .val (.long v14), .second, .val (.long v16), .second, .val (.long v18), .second, .val (.long v20), .second, .val (.long v22), .second, .val (.long v24), .second, .val (.long v26), .second, .val (.long v28), .second, .val (.ref b100), .val (.int (1 : Int32))] [(.int (1 : Int32))])) _
      refine XS.goto X109.here hx rfl (pc0 := 351) (pc' := 355) rfl (hb hby at_351) (by decide) (by decide) ?_
      refine XS.istore X109.here hx rfl (hb hby at_355) rfl (l' := #[.val (.long q0), .second, .val (.long q1), .second, .val (.long q2), .second, .val (.long q3), .second, .val (.int p4), .val (.int v2), .val (.long (-9223372036854775808 : Int64)), .second, .val (.long q0), .second, .val (.long v4), .second, .val (.long v6), .second, .val (.long v8), .second, .val (.long v10), .second, .val (.long v12), .second, .val (.long v14), .second, .val (.long v16), .second, .val (.long v18), .second, .val (.long v20), .second, .val (.long v22), .second, .val (.long v24), .second, .val (.long v26), .second, .val (.long v28), .second, .val (.ref b100), .val (.int (1 : Int32))]) rfl ?_
      refine XS.iload X109.here hx rfl (hb hby at_357) rfl ?_
      show Steps p.tables e below (T109.setTop (mkF m 359 #[.val (.long q0), .second, .val (.long q1), .second, .val (.long q2), .second, .val (.long q3), .second, .val (.int p4), .val (.int v2), .val (.long (-9223372036854775808 : Int64)), .second, .val (.long q0), .second, .val (.long v4), .second, .val (.long v6), .second, .val (.long v8), .second, .val (.long v10), .second, .val (.long v12), .second, .val (.long v14), .second, .val (.long v16), .second, .val (.long v18), .second, .val (.long v20), .second, .val (.long v22), .second, .val (.long v24), .second, .val (.long v26), .second, .val (.long v28), .second, .val (.ref b100), .val (.int (1 : Int32))] [(.int (1 : Int32))])) _
      refine XS.ifNo X109.here hx rfl (hb hby at_359) rfl ((if0 _ _).trans (feq (by decide : ¬ ((1 : Int32) = (0 : Int32)))).1) ?_
      refine XS.iload X109.here hx rfl (hb hby at_362) rfl ?_
      show Steps p.tables e below (T109.setTop (mkF m 364 #[.val (.long q0), .second, .val (.long q1), .second, .val (.long q2), .second, .val (.long q3), .second, .val (.int p4), .val (.int v2), .val (.long (-9223372036854775808 : Int64)), .second, .val (.long q0), .second, .val (.long v4), .second, .val (.long v6), .second, .val (.long v8), .second, .val (.long v10), .second, .val (.long v12), .second, .val (.long v14), .second, .val (.long v16), .second, .val (.long v18), .second, .val (.long v20), .second, .val (.long v22), .second, .val (.long v24), .second, .val (.long v26), .second, .val (.long v28), .second, .val (.ref b100), .val (.int (1 : Int32))] [(.int v2)])) _
      refine XS.iconst X109.here hx rfl (hb hby at_364) ?_
      show Steps p.tables e below (T109.setTop (mkF m 365 #[.val (.long q0), .second, .val (.long q1), .second, .val (.long q2), .second, .val (.long q3), .second, .val (.int p4), .val (.int v2), .val (.long (-9223372036854775808 : Int64)), .second, .val (.long q0), .second, .val (.long v4), .second, .val (.long v6), .second, .val (.long v8), .second, .val (.long v10), .second, .val (.long v12), .second, .val (.long v14), .second, .val (.long v16), .second, .val (.long v18), .second, .val (.long v20), .second, .val (.long v22), .second, .val (.long v24), .second, .val (.long v26), .second, .val (.long v28), .second, .val (.ref b100), .val (.int (1 : Int32))] [(.int (3 : Int32)), (.int v2)])) _
      refine XS.icmpNo X109.here hx rfl (hb hby at_365) rfl (tlt hd365_121).2.2.2 ?_
      refine XS.aload X109.here hx rfl (hb hby at_368) rfl rfl ?_
      refine XS.iconst X109.here hx rfl (hb hby at_370) ?_
      refine X109.laload hx (j := (3 : Int32)) (v := (.long (own_N (own_N q0 q1) (own_N q2 q3)))) Ar122.1 (State.isArrayOf_alike hZ.alike Ar122.2.1) Ar122.2.2 hin122 hat122 (g := (mkF m 371 #[.val (.long q0), .second, .val (.long q1), .second, .val (.long q2), .second, .val (.long q3), .second, .val (.int p4), .val (.int v2), .val (.long (-9223372036854775808 : Int64)), .second, .val (.long q0), .second, .val (.long v4), .second, .val (.long v6), .second, .val (.long v8), .second, .val (.long v10), .second, .val (.long v12), .second, .val (.long v14), .second, .val (.long v16), .second, .val (.long v18), .second, .val (.long v20), .second, .val (.long v22), .second, .val (.long v24), .second, .val (.long v26), .second, .val (.long v28), .second, .val (.ref b100), .val (.int (1 : Int32))] [(.int (3 : Int32)), (.ref b100)])) rfl rfl (hb hby at_371) _ ?_
      show Steps p.tables e below (T109.setTop (mkF m 372 #[.val (.long q0), .second, .val (.long q1), .second, .val (.long q2), .second, .val (.long q3), .second, .val (.int p4), .val (.int v2), .val (.long (-9223372036854775808 : Int64)), .second, .val (.long q0), .second, .val (.long v4), .second, .val (.long v6), .second, .val (.long v8), .second, .val (.long v10), .second, .val (.long v12), .second, .val (.long v14), .second, .val (.long v16), .second, .val (.long v18), .second, .val (.long v20), .second, .val (.long v22), .second, .val (.long v24), .second, .val (.long v26), .second, .val (.long v28), .second, .val (.ref b100), .val (.int (1 : Int32))] [(.long (own_N (own_N q0 q1) (own_N q2 q3)))])) _
      refine XS.lload X109.here hx rfl (hb hby at_372) rfl ?_
      refine XS.lcmp X109.here hx rfl (hb hby at_374) rfl ?_
      show Steps p.tables e below (T109.setTop (mkF m 375 #[.val (.long q0), .second, .val (.long q1), .second, .val (.long q2), .second, .val (.long q3), .second, .val (.int p4), .val (.int v2), .val (.long (-9223372036854775808 : Int64)), .second, .val (.long q0), .second, .val (.long v4), .second, .val (.long v6), .second, .val (.long v8), .second, .val (.long v10), .second, .val (.long v12), .second, .val (.long v14), .second, .val (.long v16), .second, .val (.long v18), .second, .val (.long v20), .second, .val (.long v22), .second, .val (.long v24), .second, .val (.long v26), .second, .val (.long v28), .second, .val (.ref b100), .val (.int (1 : Int32))] [(.int (lcmpW (own_N (own_N q0 q1) (own_N q2 q3)) v24))])) _
      refine XS.ifNo X109.here hx rfl (hb hby at_375) rfl ((if0 _ _).trans (teq ((lw_eq (own_N (own_N q0 q1) (own_N q2 q3)) v24).mpr hd375_123)).2) ?_
      refine XS.iconst X109.here hx rfl (hb hby at_378) ?_
      show Steps p.tables e below (T109.setTop (mkF m 379 #[.val (.long q0), .second, .val (.long q1), .second, .val (.long q2), .second, .val (.long q3), .second, .val (.int p4), .val (.int v2), .val (.long (-9223372036854775808 : Int64)), .second, .val (.long q0), .second, .val (.long v4), .second, .val (.long v6), .second, .val (.long v8), .second, .val (.long v10), .second, .val (.long v12), .second, .val (.long v14), .second, .val (.long v16), .second, .val (.long v18), .second, .val (.long v20), .second, .val (.long v22), .second, .val (.long v24), .second, .val (.long v26), .second, .val (.long v28), .second, .val (.ref b100), .val (.int (1 : Int32))] [(.int (1 : Int32))])) _
      refine XS.goto X109.here hx rfl (pc0 := 379) (pc' := 383) rfl (hb hby at_379) (by decide) (by decide) ?_
      refine XS.istore X109.here hx rfl (hb hby at_383) rfl (l' := #[.val (.long q0), .second, .val (.long q1), .second, .val (.long q2), .second, .val (.long q3), .second, .val (.int p4), .val (.int v2), .val (.long (-9223372036854775808 : Int64)), .second, .val (.long q0), .second, .val (.long v4), .second, .val (.long v6), .second, .val (.long v8), .second, .val (.long v10), .second, .val (.long v12), .second, .val (.long v14), .second, .val (.long v16), .second, .val (.long v18), .second, .val (.long v20), .second, .val (.long v22), .second, .val (.long v24), .second, .val (.long v26), .second, .val (.long v28), .second, .val (.ref b100), .val (.int (1 : Int32))]) rfl ?_
      show Steps p.tables e below (T109.setTop (mkF m 385 #[.val (.long q0), .second, .val (.long q1), .second, .val (.long q2), .second, .val (.long q3), .second, .val (.int p4), .val (.int v2), .val (.long (-9223372036854775808 : Int64)), .second, .val (.long q0), .second, .val (.long v4), .second, .val (.long v6), .second, .val (.long v8), .second, .val (.long v10), .second, .val (.long v12), .second, .val (.long v14), .second, .val (.long v16), .second, .val (.long v18), .second, .val (.long v20), .second, .val (.long v22), .second, .val (.long v24), .second, .val (.long v26), .second, .val (.long v28), .second, .val (.ref b100), .val (.int (1 : Int32))] [])) _
      refine XS.iload X109.here hx rfl (hb hby at_385) rfl ?_
      show Steps p.tables e below (T109.setTop (mkF m 387 #[.val (.long q0), .second, .val (.long q1), .second, .val (.long q2), .second, .val (.long q3), .second, .val (.int p4), .val (.int v2), .val (.long (-9223372036854775808 : Int64)), .second, .val (.long q0), .second, .val (.long v4), .second, .val (.long v6), .second, .val (.long v8), .second, .val (.long v10), .second, .val (.long v12), .second, .val (.long v14), .second, .val (.long v16), .second, .val (.long v18), .second, .val (.long v20), .second, .val (.long v22), .second, .val (.long v24), .second, .val (.long v26), .second, .val (.long v28), .second, .val (.ref b100), .val (.int (1 : Int32))] [(.int (1 : Int32))])) _
      exact retN X109 hx (t := .boolean) Bd.returns (by simp) (hb hby at_387) hr
    · show Q0 Z q0 q1 q2 q3 p4  h0 n0 _ T109.heap _
      exact ⟨rfl, N109⟩
set_option maxRecDepth 65536 in
set_option maxHeartbeats 40000000 in
theorem comes_1 {Post : Tables → Env → Array Value → State → Outcome → State → Prop} (hpost : ∀ tb e args s v u, (limb_1_1.after args s (.returned v) u = true ∧ limb_1_2.after args s (.returned v) u = true ∧ True) → FrameEnd s (.returned v) u (Jvm.fieldLocs frame_1_writes args s ++ Jvm.arrayLocs frame_1_arrays args s ++ Jvm.staticLocs frame_1_statics s) 16 128 → Post tb e args s (.returned v) u) :
    ArmFor flags0 classFile x code maxLocals ret World_1 tables_1 room_1 Calls_1 rest_1 Pre_1 Post := by
  intro l hfl _ _ p e ha hc hk s m args below hf hA hF happ hP
  obtain ⟨hcalls, hrest, hpre⟩ := hP
  obtain ⟨-, -, -, hnamed, -, -, -, hat⟩ := (Spec.applies_iff hf).mp happ
  obtain ⟨hg, hn⟩ := and_e (Cond.before_iff.mp (show (Jvm.Cond.and given_1 narrow_1).before args s = true from hpre))
  obtain ⟨g1, g2⟩ := and_e hg
  obtain ⟨g3, g4⟩ := and_e g2
  obtain ⟨g5, g6⟩ := and_e g4
  obtain ⟨g7, g8⟩ := and_e g6
  obtain ⟨g9, g10⟩ := and_e g8
  obtain ⟨w0, w1, w2, w3, w4, rfl⟩ : ∃ w0 w1 w2 w3 w4 : Value, args = #[w0, w1, w2, w3, w4] := by
    have hs : args.size = 5 := by simpa [Cond.value, given_1] using g1
    obtain ⟨L⟩ := args
    match L, hs with
    | [w0, w1, w2, w3, w4], _ => exact ⟨w0, w1, w2, w3, w4, rfl⟩
  have hw := fun d (hd : d ∈ tables_1) => atoms_spec (ws := Jvm.Cond.code x code maxLocals ret :: tables_1) hat d (List.mem_cons_of_mem _ hd)
  have hfit : Fit s := fun {y c} hc i hi => by
    obtain ⟨ha, rfl⟩ := Array.getElem?_eq_some_iff.mp hc
    have q := List.all_eq_true.mp ((Array.all_eq_true_iff_forall_mem.mp hF) _ (Array.getElem_mem ha)) i (List.mem_range.mpr hi)
    simpa [Array.getElem?_eq_getElem hi] using q
  obtain ⟨i0, ei0⟩ := isL_v g3
  obtain rfl : w0 = (.long i0) := Option.some.inj ei0
  obtain ⟨i1, ei1⟩ := isL_v g5
  obtain rfl : w1 = (.long i1) := Option.some.inj ei1
  obtain ⟨i2, ei2⟩ := isL_v g7
  obtain rfl : w2 = (.long i2) := Option.some.inj ei2
  obtain ⟨i3, ei3⟩ := isL_v g9
  obtain rfl : w3 = (.long i3) := Option.some.inj ei3
  obtain ⟨i4, ei4⟩ := is_v g10
  obtain rfl : w4 = (.int i4) := Option.some.inj ei4
  obtain ⟨n, o, h1, h2, h3, _, L, rfl, ⟨rfl, N⟩, hq⟩ := rm0 l s _ hw tables_1 i0 i1 i2 i3 i4  s.heap s.heap.size (Nat.le_refl _)  p e ha hc hk s m _ below hf ((Spec.applies_iff_loose hf).mp happ).1 ⟨rfl, State.Warmed39.refl s, rfl⟩ trivial
  refine ⟨n, _, h1, h2, h3, hpost _ _ _ _ _ _ ⟨Cond.after_iff.mpr rfl, Cond.after_iff.mpr (eq_i res_at (Term.int_eval (1)) rfl), trivial⟩ ⟨hq.1, hq.2.1, (hq.2.2.sift fun y hy => Or.inr (N y hy)).mono (by decide) (by decide)⟩⟩
theorem main_1_1 : Claimed_1_1 := comes_1 fun _ _ _ _ _ _ h hF => ⟨h.1, hF⟩
theorem main_1_2 : Claimed_1_2 := comes_1 fun _ _ _ _ _ _ h hF => ⟨h.2.1, hF⟩
end Jvm.Pilot.@@N@@
namespace Jvm.Pilot.@@N@@
open Jvm Jvm.ClassFile Sem Op Lib Jvm.Free Jvm.Stand Jvm.Pilot.@@N@@.Jvm.D
/-! MADE BY PROGRAM (witnessworld.py) out of the Statement's table words and the real class files: 12 classes; the members and pool entries that the words name. The judged class is class 1, her method 1. -/
namespace start1
open Jvm.ClassFile
def u (s : String) : CpInfo := .utf8 (stringToUtf16 s)
/-- a pool by its gaps: so many unusable entries, then the entry; so many at the end -/
def gap : Nat → List CpInfo → List CpInfo
  | 0, r => r
  | n + 1, r => .unusable :: gap n r
def poolList (es : List (Nat × CpInfo)) (last : Nat) : List CpInfo := es.foldr (fun e r => gap e.1 (e.2 :: r)) (gap last [])
def pool (es : List (Nat × CpInfo)) (last : Nat) : Array CpInfo := ⟨poolList es last⟩
def fileOf (pool : Array CpInfo) (this : Nat) (attrs : Array Attribute := #[]) (ms : Array MethodInfo := #[]) (fl : Nat := 33) (sup : Nat := 0) (ifs : Array Nat := #[]) (fds : Array FieldInfo := #[]) : ClassFile where
  minorVersion := 0
  majorVersion := 65
  constantPool := pool
  accessFlags := fl
  thisClass := this
  superClass := sup
  interfaces := ifs
  fields := fds
  methods := ms
  attributes := attrs
def plain (name : String) (sup : Option ClassId) : Class where
  name := name
  kind := .ordinary
  loader := none
  accessFlags := 33
  super := sup
  interfaces := #[]
  cf := none
  fields := #[]
  methods := #[]
  instanceTypes := #[]
  staticTypes := #[]
  resolved := #[]
  callSites := []
  init := .initialized
  statics := none
  mirror := none

def pool0 : Array CpInfo := pool [(5, u "<init>"), (0, u "()V"), (1, .class_ 10), (1, u "java/lang/Object")] 113

def k0m0 : Method := { name := "<init>", desc := "()V", sig := { parameters := [], returnType := none }, accessFlags := 1, code := none }
/-- java/lang/Object -/
def k0 : Class := { plain "java/lang/Object" none with
  accessFlags := 33
  interfaces := #[]
  cf := some (fileOf pool0 8 #[] #[{ accessFlags := 1, nameIndex := 5, descriptorIndex := 6, attributes := #[] }] 33 0 #[] #[])
  fields := #[]
  methods := #[k0m0]
  instanceTypes := #[]
  staticTypes := #[]
  resolved := Array.replicate 124 none
  statics := none }

def pool1 : Array CpInfo := pool [(2, .class_ 4), (1, u "java/lang/Object"), (0, u "<init>"), (0, u "()V"), (0, .integer 2147483647), (2, .long 9223372036854775808), (1, .methodref 13 14), (0, .class_ 15), (0, .nameAndType 16 17), (0, u "java/lang/Math"), (0, u "max"), (0, u "(JJ)J"), (0, .methodref 13 19), (0, .nameAndType 20 17), (0, u "min"), (0, .methodref 22 23), (0, .class_ 24), (0, .nameAndType 25 26), (0, u "com/example/firepick/firepick/TimeTags"), (0, u "rank"), (0, u "([J)V"), (0, .class_ 28), (0, u "com/example/firepick/firepick/TimeTagsRankPinLaw"), (2, u "law"), (0, u "(JJJJI)Z")] 5

def k1m0 : Method := { name := "<init>", desc := "()V", sig := { parameters := [], returnType := none }, accessFlags := 2, code := none }
def k1c1 : Code := { maxStack := 5, maxLocals := 42, code := code, exceptionTable := #[], attributes := #[] }
def k1m1 : Method := { name := "law", desc := "(JJJJI)Z", sig := { parameters := [.long, .long, .long, .long, .int], returnType := some .boolean }, accessFlags := 9, code := some k1c1 }
/-- com/example/firepick/firepick/TimeTagsRankPinLaw -/
def k1 : Class := { plain "com/example/firepick/firepick/TimeTagsRankPinLaw" (some 0) with
  accessFlags := 49
  interfaces := #[]
  cf := some (fileOf pool1 27 #[] #[{ accessFlags := 2, nameIndex := 5, descriptorIndex := 6, attributes := #[] }, { accessFlags := 9, nameIndex := 31, descriptorIndex := 32, attributes := #[] }] 49 2 #[] #[])
  fields := #[]
  methods := #[k1m0, k1m1]
  instanceTypes := #[]
  staticTypes := #[]
  resolved := Array.replicate 38 none
  statics := none }

def pool2 : Array CpInfo := pool [(1, .class_ 2), (0, u "java/lang/Math"), (1, .class_ 6), (1, u "java/lang/Object"), (0, u "<init>"), (0, u "()V"), (89, .class_ 100), (1, u "java/lang/Math$RandomNumberGeneratorHolder"), (20, u "(JJ)J"), (50, u "negativeZeroFloatBits"), (0, u "J"), (2, u "negativeZeroDoubleBits"), (21, u "max"), (2, u "min"), (43, u "$assertionsDisabled"), (0, u "Z"), (91, u "twoToTheDoubleScaleDown"), (0, u "D"), (4, u "twoToTheDoubleScaleUp"), (9, u "E"), (3, u "PI"), (2, u "TAU"), (2, u "DEGREES_TO_RADIANS"), (0, u "RADIANS_TO_DEGREES")] 94

def k2m0 : Method := { name := "<init>", desc := "()V", sig := { parameters := [], returnType := none }, accessFlags := 2, code := none }
def k2c1 : Code := { maxStack := 4, maxLocals := 4, code := jdk_29_method_66_code, exceptionTable := #[], attributes := #[] }
def k2m1 : Method := { name := "max", desc := "(JJ)J", sig := { parameters := [.long, .long], returnType := some .long }, accessFlags := 9, code := some k2c1 }
def k2c2 : Code := { maxStack := 4, maxLocals := 4, code := jdk_29_method_70_code, exceptionTable := #[], attributes := #[] }
def k2m2 : Method := { name := "min", desc := "(JJ)J", sig := { parameters := [.long, .long], returnType := some .long }, accessFlags := 9, code := some k2c2 }
/-- java/lang/Math -/
def k2 : Class := { plain "java/lang/Math" (some 0) with
  accessFlags := 49
  interfaces := #[]
  cf := some (fileOf pool2 1 #[.nestMembers #[98]] #[{ accessFlags := 2, nameIndex := 7, descriptorIndex := 8, attributes := #[] }, { accessFlags := 9, nameIndex := 198, descriptorIndex := 121, attributes := #[] }, { accessFlags := 9, nameIndex := 201, descriptorIndex := 121, attributes := #[] }] 49 4 #[] #[{ accessFlags := 25, nameIndex := 354, descriptorIndex := 339, attributes := #[] }, { accessFlags := 25, nameIndex := 358, descriptorIndex := 339, attributes := #[] }, { accessFlags := 25, nameIndex := 361, descriptorIndex := 339, attributes := #[] }, { accessFlags := 26, nameIndex := 364, descriptorIndex := 339, attributes := #[] }, { accessFlags := 26, nameIndex := 365, descriptorIndex := 339, attributes := #[] }, { accessFlags := 26, nameIndex := 172, descriptorIndex := 173, attributes := #[] }, { accessFlags := 26, nameIndex := 176, descriptorIndex := 173, attributes := #[] }, { accessFlags := 8, nameIndex := 344, descriptorIndex := 339, attributes := #[] }, { accessFlags := 8, nameIndex := 338, descriptorIndex := 339, attributes := #[] }, { accessFlags := 4120, nameIndex := 245, descriptorIndex := 246, attributes := #[] }])
  fields := #[{ name := "E", type := .double, accessFlags := 25, slot := 0, constantValue := 0 }, { name := "PI", type := .double, accessFlags := 25, slot := 1, constantValue := 0 }, { name := "TAU", type := .double, accessFlags := 25, slot := 2, constantValue := 0 }, { name := "DEGREES_TO_RADIANS", type := .double, accessFlags := 26, slot := 3, constantValue := 0 }, { name := "RADIANS_TO_DEGREES", type := .double, accessFlags := 26, slot := 4, constantValue := 0 }, { name := "negativeZeroFloatBits", type := .long, accessFlags := 26, slot := 5, constantValue := 0 }, { name := "negativeZeroDoubleBits", type := .long, accessFlags := 26, slot := 6, constantValue := 0 }, { name := "twoToTheDoubleScaleUp", type := .double, accessFlags := 8, slot := 7, constantValue := 0 }, { name := "twoToTheDoubleScaleDown", type := .double, accessFlags := 8, slot := 8, constantValue := 0 }, { name := "$assertionsDisabled", type := .boolean, accessFlags := 4120, slot := 9, constantValue := 0 }]
  methods := #[k2m0, k2m1, k2m2]
  instanceTypes := #[]
  staticTypes := #[.double, .double, .double, .double, .double, .long, .long, .double, .double, .boolean]
  resolved := Array.replicate 460 none
  statics := none }

def pool3 : Array CpInfo := pool [(2, .class_ 4), (1, u "java/lang/Object"), (0, u "<init>"), (0, u "()V"), (7, .class_ 16), (1, u "com/example/firepick/firepick/TimeTags"), (0, u "rank"), (0, u "([J)V")] 13

def k3m0 : Method := { name := "<init>", desc := "()V", sig := { parameters := [], returnType := none }, accessFlags := 2, code := none }
def k3c1 : Code := { maxStack := 4, maxLocals := 5, code := prog_84_method_3_code, exceptionTable := #[], attributes := #[] }
def k3m1 : Method := { name := "rank", desc := "([J)V", sig := { parameters := [(.array .long)], returnType := none }, accessFlags := 8, code := some k3c1 }
/-- com/example/firepick/firepick/TimeTags -/
def k3 : Class := { plain "com/example/firepick/firepick/TimeTags" (some 0) with
  accessFlags := 32
  interfaces := #[]
  cf := some (fileOf pool3 14 #[] #[{ accessFlags := 2, nameIndex := 5, descriptorIndex := 6, attributes := #[] }, { accessFlags := 8, nameIndex := 17, descriptorIndex := 18, attributes := #[] }] 32 2 #[] #[])
  fields := #[]
  methods := #[k3m0, k3m1]
  instanceTypes := #[]
  staticTypes := #[]
  resolved := Array.replicate 32 none
  statics := none }

def pool4 : Array CpInfo := pool [(1, u "java/lang/Cloneable"), (0, .class_ 1), (0, u "java/lang/Object"), (0, .class_ 3)] 3

/-- java/lang/Cloneable -/
def k4 : Class := { plain "java/lang/Cloneable" (some 0) with
  accessFlags := 1537
  interfaces := #[]
  cf := some (fileOf pool4 2 #[] #[] 1537 4 #[] #[])
  fields := #[]
  methods := #[]
  instanceTypes := #[]
  staticTypes := #[]
  resolved := Array.replicate 8 none
  statics := none }

def pool5 : Array CpInfo := pool [(1, u "java/io/Serializable"), (0, .class_ 1), (0, u "java/lang/Object"), (0, .class_ 3)] 3

/-- java/io/Serializable -/
def k5 : Class := { plain "java/io/Serializable" (some 0) with
  accessFlags := 1537
  interfaces := #[]
  cf := some (fileOf pool5 2 #[] #[] 1537 4 #[] #[])
  fields := #[]
  methods := #[]
  instanceTypes := #[]
  staticTypes := #[]
  resolved := Array.replicate 8 none
  statics := none }

/-- the primitive byte -/
def k6 : Class := { plain "byte" none with kind := .primitive 'B', accessFlags := 0x411 }
/-- [B -/
def k7 : Class := { plain "[B" (some 0) with kind := .array 6 .byte, interfaces := #[4, 5], accessFlags := 1041 }

/-- the primitive int -/
def k8 : Class := { plain "int" none with kind := .primitive 'I', accessFlags := 0x411 }
/-- [I -/
def k9 : Class := { plain "[I" (some 0) with kind := .array 8 .int, interfaces := #[4, 5], accessFlags := 1041 }

/-- the primitive long -/
def k10 : Class := { plain "long" none with kind := .primitive 'J', accessFlags := 0x411 }
/-- [J -/
def k11 : Class := { plain "[J" (some 0) with kind := .array 10 .long, interfaces := #[4, 5], accessFlags := 1041 }

def heap : Heap := #[]
def classes : Array Class := #[k0, k1, k2, k3, k4, k5, k6, k7, k8, k9, k10, k11]
def interned : List (Array UInt16 × Addr) := []
def slotsUsed : Nat := 0
def theMethod : MethodId := ⟨1, 1⟩
def args0 : Array Value := #[.long 3, .long 1, .long 2, .long 5, .int 4]
def aboutOver (below : List Frame) : State where
  vm := { classes := classes, interned := interned.toArray }
  heap := heap
  slotsUsed := slotsUsed
  threads := #[{ frames := .invoking theMethod args0 :: below }]
def below0 : List Frame := [.native { method := ⟨0, 0⟩, args := #[] }]
def about1 : State := aboutOver below0
def p0 : Program := .bare "" "" ""
def e0 : Env := launch0.env 0 0 0
theorem w_frames : about1.frames = Frame.invoking theMethod args0 :: below0 := rfl
set_option maxRecDepth 65536 in
theorem w_args : argsFit about1.vm theMethod args0 = true := by decide +kernel
set_option maxRecDepth 65536 in
theorem w_heap : heapFits about1 = true := by decide +kernel
set_option maxRecDepth 65536 in
theorem w_runnable : about1.curStatus? = some .runnable := by decide +kernel
set_option maxRecDepth 65536 in
theorem w_alone : about1.alone = true := by decide +kernel
set_option maxRecDepth 65536 in
theorem w_named : about1.methodNamed? x = some theMethod := by decide +kernel
set_option maxRecDepth 65536 in
theorem w_hears : about1.hears theMethod below0 = true := by decide +kernel
set_option maxRecDepth 65536 in
theorem w_ripe : about1.ripe theMethod args0 below0 = true := by decide +kernel
theorem w_running : about1.status = .running := rfl
set_option maxRecDepth 65536 in
theorem w_room : about1.hasRoom e0.platform room_1 = true :=
  launch0.hasRoom_least _ room_1 (by decide +kernel) (by decide +kernel) (by decide +kernel) (by decide +kernel) (by decide +kernel) (by decide +kernel)
theorem allAtoms_all (ts : List Jvm.Cond) (a : Array Jvm.Value) (st : Jvm.State) : (allAtoms ts).before a st = ts.all (fun c => c.before a st) := by
  induction ts with
  | nil => rfl
  | cons c t ih =>
    show (Jvm.Cond.and c (allAtoms t)).before a st = _
    rw [Jvm.Cond.before_and, ih, List.all_cons]
def words1 : List Jvm.Cond := Jvm.Cond.code x code maxLocals ret :: tables_1
/-- a 'code' word, met by the world's own term for the bytes: nothing is compared byte by byte -/
theorem code_word {y : MethodName} {bytes : ByteArray} {mx : Nat} {rt : Option FieldType} {a : Array Value} {s : State} {m : MethodId} {meth : Method} {c : Code} (h1 : s.methodNamed? y = some m) (h2 : s.vm.method? m = some meth) (h3 : meth.code = some c) (h4 : c.code = bytes)
    (h5 : (c.maxLocals == mx && c.exceptionTable.isEmpty && decide (c.maxStack ≤ mostOperands) && decide (meth.sig.returnType = rt) && !meth.locks && decide (parseMethodDescriptor y.desc = some meth.sig)) = true) : (Jvm.Cond.code y bytes mx rt).before a s = true := by
  simp only [Bool.and_eq_true, beq_iff_eq, Bool.not_eq_true', decide_eq_true_eq] at h5
  obtain ⟨⟨⟨⟨⟨g1, g2⟩, g3⟩, g4⟩, g5⟩, g6⟩ := h5
  simp [Cond.before, Cond.holds, Cond.value, h1, h2, h3, h4, g1, g2, g3, g4, g5, g6]
def isCode : Jvm.Cond → Bool
  | .code _ _ _ _ => true
  | _ => false
theorem all_split {L : List Jvm.Cond} {P : Jvm.Cond → Bool} (h1 : L.all (fun c => isCode c || P c) = true) (h2 : ∀ c ∈ L.filter isCode, P c = true) : L.all P = true := by
  refine List.all_eq_true.mpr fun c hc => ?_
  have h := List.all_eq_true.mp h1 c hc
  rcases Bool.eq_false_or_eq_true (isCode c) with hi | hi
  · exact h2 c (List.mem_filter.mpr ⟨hc, hi⟩)
  · simpa [hi] using h
set_option maxRecDepth 65536 in
theorem w_c0 : (Jvm.Cond.code x code maxLocals ret).before args0 about1 = true := code_word (m := ⟨1, 1⟩) (meth := k1m1) (c := k1c1) (by decide +kernel) rfl rfl rfl (by decide +kernel)
set_option maxRecDepth 65536 in
theorem w_c1 : (Jvm.Cond.code ({ cls := "java/lang/Math", name := "max", desc := "(JJ)J" } : Jvm.MethodName) jdk_29_method_66_code (4 : Nat) (Option.some Jvm.ClassFile.FieldType.long)).before args0 about1 = true := code_word (m := ⟨2, 1⟩) (meth := k2m1) (c := k2c1) (by decide +kernel) rfl rfl rfl (by decide +kernel)
set_option maxRecDepth 65536 in
theorem w_c2 : (Jvm.Cond.code ({ cls := "java/lang/Math", name := "min", desc := "(JJ)J" } : Jvm.MethodName) jdk_29_method_70_code (4 : Nat) (Option.some Jvm.ClassFile.FieldType.long)).before args0 about1 = true := code_word (m := ⟨2, 2⟩) (meth := k2m2) (c := k2c2) (by decide +kernel) rfl rfl rfl (by decide +kernel)
set_option maxRecDepth 65536 in
theorem w_c3 : (Jvm.Cond.code ({ cls := "com/example/firepick/firepick/TimeTags", name := "rank", desc := "([J)V" } : Jvm.MethodName) prog_84_method_3_code (5 : Nat) (Option.none : Option Jvm.ClassFile.FieldType)).before args0 about1 = true := code_word (m := ⟨3, 1⟩) (meth := k3m1) (c := k3c1) (by decide +kernel) rfl rfl rfl (by decide +kernel)
def codes1 : List Jvm.Cond := [Jvm.Cond.code x code maxLocals ret, Jvm.Cond.code ({ cls := "java/lang/Math", name := "max", desc := "(JJ)J" } : Jvm.MethodName) jdk_29_method_66_code (4 : Nat) (Option.some Jvm.ClassFile.FieldType.long), Jvm.Cond.code ({ cls := "java/lang/Math", name := "min", desc := "(JJ)J" } : Jvm.MethodName) jdk_29_method_70_code (4 : Nat) (Option.some Jvm.ClassFile.FieldType.long), Jvm.Cond.code ({ cls := "com/example/firepick/firepick/TimeTags", name := "rank", desc := "([J)V" } : Jvm.MethodName) prog_84_method_3_code (5 : Nat) (Option.none : Option Jvm.ClassFile.FieldType)]
set_option maxRecDepth 65536 in
theorem codes_eq : words1.filter isCode = codes1 := rfl
theorem w_codes : ∀ c ∈ words1.filter isCode, c.before args0 about1 = true := by
  rw [codes_eq]
  intro c hc
  simp only [codes1, List.mem_cons, List.not_mem_nil, or_false] at hc
  rcases hc with rfl | rfl | rfl | rfl
  · exact w_c0
  · exact w_c1
  · exact w_c2
  · exact w_c3
set_option maxRecDepth 65536 in
theorem w_t1 : words1.all (fun c => isCode c || c.before args0 about1) = true := by decide +kernel
theorem w_tables : (allAtoms (Jvm.Cond.code x code maxLocals ret :: tables_1)).before args0 about1 = true := by
  rw [allAtoms_all]
  show words1.all (fun c => c.before args0 about1) = true
  refine all_split ?_ w_codes
  rw [w_t1]
set_option maxRecDepth 65536 in
theorem w_case : (Jvm.Cond.and given_1 narrow_1).before args0 about1 = true := by decide +kernel
theorem w_applies : (headSpec (Jvm.Cond.code x code maxLocals ret :: tables_1) room_1).applies x e0.platform about1 = true :=
  (Spec.applies_iff w_frames).mpr ⟨w_running, w_runnable, w_alone, w_named, w_hears, w_ripe, w_room, w_tables⟩
theorem atStart : AtStart classFile x code maxLocals ret World_1 tables_1 room_1 Calls_1 rest_1 Pre_1 launch0 p0 e0 about1 theMethod args0 below0 :=
  ⟨lists_1, trivial, launch0.admits_env _ _ _, launch0.least_env, fairChoices_fair.cas, fairChoices_fair.clock, w_frames, w_args, w_heap, w_applies, trivial, trivial, w_case⟩
end start1
theorem witness_1 : WitnessClaimed_1 := ⟨start1.p0, start1.e0, start1.about1, start1.theMethod, start1.args0, start1.below0, start1.atStart⟩
end Jvm.Pilot.@@N@@
