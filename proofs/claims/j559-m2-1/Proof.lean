import JvmDerived
import JvmDerived.Pilot.@@N@@Statement
import JvmDerived.Pilot.@@N@@Code
set_option linter.unusedVariables false
set_option linter.unusedSimpArgs false
namespace Jvm.RoadKit
open Sem ClassFile Op Lib Jvm.Stand Jvm.Free Jvm.LawKit
section New
variable {p : Program} {l : Launch} {e : Env} {R : Room} {s : State} {m : MethodId} {args : Array Value} {below : List Frame} {meth : Method} {c : Code} {T : State} {locs : List Loc} {cells slots : Nat}
theorem retI (X : Stand p l e R s m args below meth c T locs cells slots) (hx : p.tables.exec = Jvm.exec) {pc : Nat} {Ls : Array Slot} {z : Int32} {rest : List Value} (hret : meth.sig.returnType = some .int) (hd : decode c.code pc = .ok (.ireturn, 1)) {fs : List Frame}
    (hl : ∀ (f : JFrame) (acts : List Action), f.method = m → f.locked = none → f.entered = [] → (doReturn e (T.setTop f) acts (some (.int z))).1 = T.setFrames fs) : Steps p.tables e below (T.setTop (mkF m pc Ls (.int z :: rest))) (T.setFrames fs) := by
  have hm' : T.vm.method? m = some meth := X.method'
  have hn : narrow .int (.int z) = .int z := rfl
  show Steps p.tables e below (T.setTop { method := m, pc := pc, locals := Ls, stack := _ :: rest, locked := none }) _
  jvm_step X.here [X.here.top, hx, hd, hm', hret, hn]
  first | (intro acts; rw [hl _ acts rfl rfl rfl]) | rw [hl _ _ rfl rfl rfl]
  exact Steps.refl _
theorem lremM {g : JFrame} {target : State} (X : Stand p l e R s m args below meth c T locs cells slots) (hx : p.tables.exec = Jvm.exec) (hg : g.method = m) {x y : Int64} {rest : List Value} (hd : decode c.code g.pc = .ok (.lrem, 1)) (hs : g.stack = .long y :: .long x :: rest) (hy : y ≠ 0)
    (hr : Steps p.tables e below (T.setTop { g with pc := g.pc + 1, stack := .long (x % y) :: rest }) target) : Steps p.tables e below (T.setTop g) target := by
  have q : x - x / y * y = x % y := lrem_mod x y
  exact XS.lrem X.here hx hg hd hs hy (by rw [q]; exact hr)
/-- from the state t the invocation ends as Q says -/
def Done (p : Program) (e : Env) (below : List Frame) (Q : Outcome → State → Prop) (t : State) : Prop := ∃ s₂ o, Steps p.tables e below t s₂ ∧ s₂.status = .running ∧ Ended s₂ below o ∧ Q o s₂
theorem Done.of {p : Program} {e : Env} {below : List Frame} {Q : Outcome → State → Prop} {t t' : State} (h : Done p e below Q t') (k : ∀ target, Steps p.tables e below t' target → Steps p.tables e below t target) : Done p e below Q t := by
  obtain ⟨s₂, o, h1, h2⟩ := h
  exact ⟨s₂, o, k _ h1, h2⟩
end New
end Jvm.RoadKit
namespace Jvm.Pilot.@@N@@
open Jvm Jvm.ClassFile Sem Op Lib Jvm.Free Jvm.Stand Jvm.LawKit Jvm.RoadKit Bundle Jvm.Pilot.@@N@@.Jvm.D

def own_v (x : Int32) : Int32 := if x < (1 : Int32) then (0 : Int32) else (if (1000 : Int32) < x then (0 : Int32) else (1 : Int32))
def own_e (x : Int32) : Int32 := if ((x.toInt64 - (1 : Int64)) &&& (4294967295 : Int64)) < (1000 : Int64) then (1 : Int32) else (0 : Int32)
def own_b (x : Int32) : Int32 := if x = (0 : Int32) then (1 : Int32) else (if x = (1 : Int32) then (1000 : Int32) else (if x = (2 : Int32) then (0 : Int32) else (-2147483648 : Int32)))
theorem own_ve (x : Int32) : own_v x = own_e x := by
  have h1 := c_i2l x
  have h2 := c_lsub x.toInt64 (1 : Int64)
  have h3 := c_maskL (x.toInt64 - (1 : Int64)) (4294967295 : Int64) 32 (by decide) (by decide)
  have h4 := rng32 x
  have h5 := rng64 (x.toInt64 - (1 : Int64))
  have k1 : (1 : Int64).toInt = 1 := by decide
  have k2 : (1000 : Int64).toInt = 1000 := by decide
  have k3 : (1 : Int32).toInt = 1 := by decide
  have k4 : (1000 : Int32).toInt = 1000 := by decide
  simp only [own_v, own_e, Int32.lt_iff_toInt_lt, Int64.lt_iff_toInt_lt, k2, k3, k4]
  rw [k1] at h2
  generalize (x.toInt64 - (1 : Int64) &&& (4294967295 : Int64)).toInt = A at *
  generalize (x.toInt64 - (1 : Int64)).toInt = B at *
  split
  · rw [if_neg (by omega)]
  · split
    · rw [if_neg (by omega)]
    · rw [if_pos (by omega)]
theorem own_nb {c : Prop} [Decidable c] : nar .boolean (if c then (1 : Int32) else (0 : Int32)) = if c then (1 : Int32) else (0 : Int32) := by split <;> rfl
theorem d1_0 : decode prog_86_method_4_code 0 = .ok (.iload_n 0, 1) := by decide +kernel
theorem d1_1 : decode prog_86_method_4_code 1 = .ok (.iconst 1, 1) := by decide +kernel
theorem d1_2 : decode prog_86_method_4_code 2 = .ok (.if_icmp .lt 14, 3) := by decide +kernel
theorem d1_5 : decode prog_86_method_4_code 5 = .ok (.iload_n 0, 1) := by decide +kernel
theorem d1_6 : decode prog_86_method_4_code 6 = .ok (.sipush 1000, 3) := by decide +kernel
theorem d1_9 : decode prog_86_method_4_code 9 = .ok (.if_icmp .gt 7, 3) := by decide +kernel
theorem d1_12 : decode prog_86_method_4_code 12 = .ok (.iconst 1, 1) := by decide +kernel
theorem d1_13 : decode prog_86_method_4_code 13 = .ok (.goto 4, 3) := by decide +kernel
theorem d1_16 : decode prog_86_method_4_code 16 = .ok (.iconst 0, 1) := by decide +kernel
theorem d1_17 : decode prog_86_method_4_code 17 = .ok (.ireturn, 1) := by decide +kernel
theorem pn_1 : plainName "com/example/brokerwire/brokerwire/Store" = true := by first | (simp [plainName, overriddenIn]; done) | decide +kernel
theorem ef_1 (m : MethodId) (p0 : Int32)  : entryFrame m #[(.int p0)] 1 = mkF m 0 #[.val (.int p0)] [] := by first | (simp [entryFrame, mkF, argsToLocals, Value.category]; done) | rfl
def Q1 (Z : State) (p0 : Int32) (h0 : Heap) (n0 : Nat) (v : Option Value) (h : Heap) (L : List Loc) : Prop := v = some (.int (own_v p0)) ∧ Fr n0 L ∧ h = h0
set_option maxRecDepth 65536 in
set_option maxHeartbeats 40000000 in
theorem rm1 (l : Launch) (Z : State) (a0 : Array Value) (hw : ∀ d ∈ tables_1, d.before a0 Z = true) (ws : List Jvm.Cond) (p0 : Int32) (h0 : Heap) (n0 : Nat) (Z0 : n0 ≤ h0.size) :
    MetFree l (⟨"com/example/brokerwire/brokerwire/Store", "isValidPartitionCount", "(I)Z"⟩ : MethodName) (head1 (Jvm.Cond.code (⟨"com/example/brokerwire/brokerwire/Store", "isValidPartitionCount", "(I)Z"⟩ : MethodName) prog_86_method_4_code 1 (some .boolean) :: ws) ({ frames := 0, cells := 0, slots := 0, locals := 0 } : Room)) (fun a U => a = #[(.int p0)] ∧ Z.Warmed39 U.vm ∧ U.heap = h0) (fun _ _ _ _ _ => True) (fun _ U o U' => ∃ v L, o = .returned v ∧ Q1 Z p0 h0 n0 v U'.heap L ∧ FrameEnd U o U' L ({ frames := 0, cells := 0, slots := 0, locals := 0 } : Room).cells ({ frames := 0, cells := 0, slots := 0, locals := 0 } : Room).slots) := by
  refine MetFree.of_bodySF (plainFor_of_name pn_1) hisR ?_
  intro p e s m args below meth c s₁ Bd hml0 hP hK
  obtain ⟨rfl, hZ, hh⟩ := hP
  have hx := Bd.exec
  have hby := Bd.bytes
  have hml : c.maxLocals = 1 := hml0
  have hown : s.vm.findClass "com/example/brokerwire/brokerwire/Store" = some m.cls := findClass_of_methodNamed Bd.named
  have hnm := (name_of_methodNamed Bd.named Bd.method).1
  have X0 : Stand p l e ({ frames := 0, cells := 0, slots := 0, locals := 0 } : Room) s m #[(.int p0)] below meth c s₁ [] 0 0 := Stand.of_body Bd
  have e0 : s₁.heap = h0 := by rw [← hh, Bd.state]; rfl
  have N0 := Fr.nil n0
  have pre0 : ∀ t, Steps p.tables e below (s₁.setTop (mkF m 0 #[.val (.int p0)] [])) t → Steps p.tables e below (s₁.setTop (entryFrame m #[(.int p0)] 1)) t := fun t k => castTop (ef_1 m p0) k
  show Done p e below _ _
  refine Done.of ?_ pre0
  have J2_1 : ∀ wj : Int32, wj = (if p0 < (1 : Int32) then (0 : Int32) else (if (1000 : Int32) < p0 then (0 : Int32) else (1 : Int32))) → ∀ target, Steps p.tables e below (s₁.setTop (mkF m 17 #[.val (.int p0)] [(.int wj)])) target → Steps p.tables e below (s₁.setTop (mkF m 2 #[.val (.int p0)] [(.int (1 : Int32)), (.int p0)])) target := by
    intro wj hw0 target kt
    by_cases hj2 : p0 < (1 : Int32)
    · rw [if_pos hj2] at hw0
      show Steps p.tables e below (s₁.setTop (mkF m 2 #[.val (.int p0)] [(.int (1 : Int32)), (.int p0)])) _
      refine XS.icmpYes X0.here hx rfl (pc0 := 2) (pc' := 16) rfl (hb hby d1_2) rfl (tlt hj2).1 (by decide) (by decide) ?_
      show Steps p.tables e below (s₁.setTop (mkF m 16 #[.val (.int p0)] [])) _
      refine XS.iconst X0.here hx rfl (hb hby d1_16) ?_
      rw [hw0] at kt
      exact kt
    · rw [if_neg hj2] at hw0
      show Steps p.tables e below (s₁.setTop (mkF m 2 #[.val (.int p0)] [(.int (1 : Int32)), (.int p0)])) _
      refine XS.icmpNo X0.here hx rfl (hb hby d1_2) rfl (flt hj2).1 ?_
      show Steps p.tables e below (s₁.setTop (mkF m 5 #[.val (.int p0)] [])) _
      refine XS.iloadN X0.here hx rfl (hb hby d1_5) rfl ?_
      show Steps p.tables e below (s₁.setTop (mkF m 6 #[.val (.int p0)] [(.int p0)])) _
      refine XS.sipush X0.here hx rfl (hb hby d1_6) ?_
      by_cases hj9 : (1000 : Int32) < p0
      · rw [if_pos hj9] at hw0
        show Steps p.tables e below (s₁.setTop (mkF m 9 #[.val (.int p0)] [(.int (1000 : Int32)), (.int p0)])) _
        refine XS.icmpYes X0.here hx rfl (pc0 := 9) (pc' := 16) rfl (hb hby d1_9) rfl (tlt hj9).2.2.1 (by decide) (by decide) ?_
        show Steps p.tables e below (s₁.setTop (mkF m 16 #[.val (.int p0)] [])) _
        refine XS.iconst X0.here hx rfl (hb hby d1_16) ?_
        rw [hw0] at kt
        exact kt
      · rw [if_neg hj9] at hw0
        show Steps p.tables e below (s₁.setTop (mkF m 9 #[.val (.int p0)] [(.int (1000 : Int32)), (.int p0)])) _
        refine XS.icmpNo X0.here hx rfl (hb hby d1_9) rfl (flt hj9).2.2.1 ?_
        show Steps p.tables e below (s₁.setTop (mkF m 12 #[.val (.int p0)] [])) _
        refine XS.iconst X0.here hx rfl (hb hby d1_12) ?_
        show Steps p.tables e below (s₁.setTop (mkF m 13 #[.val (.int p0)] [(.int (1 : Int32))])) _
        refine XS.goto X0.here hx rfl (pc0 := 13) (pc' := 17) rfl (hb hby d1_13) (by decide) (by decide) ?_
        rw [hw0] at kt
        exact kt
  obtain ⟨fs, hr, hrun, hended, hW, hsame⟩ := X0.leave (v := some (.int (nar .boolean (if p0 < (1 : Int32) then (0 : Int32) else (if (1000 : Int32) < p0 then (0 : Int32) else (1 : Int32)))))) (fun h => by rw [Bd.returns] at h; cases h)
  refine ⟨_, _, ?_, hrun, hended, _, _, rfl, ?_, ⟨_, rfl⟩, hW, hsame.mono (by decide) (by decide)⟩
  · show Steps p.tables e below (s₁.setTop (mkF m 0 #[.val (.int p0)] [])) _
    refine XS.iloadN X0.here hx rfl (hb hby d1_0) rfl ?_
    show Steps p.tables e below (s₁.setTop (mkF m 1 #[.val (.int p0)] [(.int p0)])) _
    refine XS.iconst X0.here hx rfl (hb hby d1_1) ?_
    show Steps p.tables e below (s₁.setTop (mkF m 2 #[.val (.int p0)] [(.int (1 : Int32)), (.int p0)])) _
    refine J2_1 _ rfl _ ?_
    show Steps p.tables e below (s₁.setTop (mkF m 17 #[.val (.int p0)] [(.int (if p0 < (1 : Int32) then (0 : Int32) else (if (1000 : Int32) < p0 then (0 : Int32) else (1 : Int32))))])) _
    exact retN X0 hx (t := .boolean) Bd.returns (by simp) (hb hby d1_17) hr
  · show Q1 Z p0  h0 n0 _ s₁.heap _
    rw [e0]
    refine ⟨?_, N0, rfl⟩
    (unfold own_v; (repeat' split) <;> rfl)
theorem d2_0 : decode method_2_code 0 = .ok (.iload_n 0, 1) := by decide +kernel
theorem d2_1 : decode method_2_code 1 = .ok (.i2l, 1) := by decide +kernel
theorem d2_2 : decode method_2_code 2 = .ok (.lconst 1, 1) := by decide +kernel
theorem d2_3 : decode method_2_code 3 = .ok (.lsub, 1) := by decide +kernel
theorem d2_4 : decode method_2_code 4 = .ok (.ldc2_w 9, 3) := by decide +kernel
theorem d2_7 : decode method_2_code 7 = .ok (.land, 1) := by decide +kernel
theorem d2_8 : decode method_2_code 8 = .ok (.lstore_n 1, 1) := by decide +kernel
theorem d2_9 : decode method_2_code 9 = .ok (.lload_n 1, 1) := by decide +kernel
theorem d2_10 : decode method_2_code 10 = .ok (.ldc2_w 11, 3) := by decide +kernel
theorem d2_13 : decode method_2_code 13 = .ok (.lcmp, 1) := by decide +kernel
theorem d2_14 : decode method_2_code 14 = .ok (.ifCond .ge 7, 3) := by decide +kernel
theorem d2_17 : decode method_2_code 17 = .ok (.iconst 1, 1) := by decide +kernel
theorem d2_18 : decode method_2_code 18 = .ok (.goto 4, 3) := by decide +kernel
theorem d2_21 : decode method_2_code 21 = .ok (.iconst 0, 1) := by decide +kernel
theorem d2_22 : decode method_2_code 22 = .ok (.ireturn, 1) := by decide +kernel
theorem pn_2 : plainName "com/example/brokerwire/brokerwire/StoreIsValidPartitionCountPinLaw" = true := by first | (simp [plainName, overriddenIn]; done) | decide +kernel
theorem ef_2 (m : MethodId) (p0 : Int32)  : entryFrame m #[(.int p0)] 3 = mkF m 0 #[.val (.int p0), .unset, .unset] [] := by first | (simp [entryFrame, mkF, argsToLocals, Value.category]; done) | rfl
def Q2 (Z : State) (p0 : Int32) (h0 : Heap) (n0 : Nat) (v : Option Value) (h : Heap) (L : List Loc) : Prop := v = some (.int (own_e p0)) ∧ Fr n0 L ∧ h = h0
set_option maxRecDepth 65536 in
set_option maxHeartbeats 40000000 in
theorem rm2 (l : Launch) (Z : State) (a0 : Array Value) (hw : ∀ d ∈ tables_1, d.before a0 Z = true) (ws : List Jvm.Cond) (p0 : Int32) (h0 : Heap) (n0 : Nat) (Z0 : n0 ≤ h0.size) :
    MetFree l (⟨"com/example/brokerwire/brokerwire/StoreIsValidPartitionCountPinLaw", "expected", "(I)Z"⟩ : MethodName) (head1 (Jvm.Cond.code (⟨"com/example/brokerwire/brokerwire/StoreIsValidPartitionCountPinLaw", "expected", "(I)Z"⟩ : MethodName) method_2_code 3 (some .boolean) :: ws) ({ frames := 0, cells := 0, slots := 0, locals := 0 } : Room)) (fun a U => a = #[(.int p0)] ∧ Z.Warmed39 U.vm ∧ U.heap = h0) (fun _ _ _ _ _ => True) (fun _ U o U' => ∃ v L, o = .returned v ∧ Q2 Z p0 h0 n0 v U'.heap L ∧ FrameEnd U o U' L ({ frames := 0, cells := 0, slots := 0, locals := 0 } : Room).cells ({ frames := 0, cells := 0, slots := 0, locals := 0 } : Room).slots) := by
  refine MetFree.of_bodySF (plainFor_of_name pn_2) hisR ?_
  intro p e s m args below meth c s₁ Bd hml0 hP hK
  obtain ⟨rfl, hZ, hh⟩ := hP
  have hx := Bd.exec
  have hby := Bd.bytes
  have hml : c.maxLocals = 3 := hml0
  have hown : s.vm.findClass "com/example/brokerwire/brokerwire/StoreIsValidPartitionCountPinLaw" = some m.cls := findClass_of_methodNamed Bd.named
  have hnm := (name_of_methodNamed Bd.named Bd.method).1
  have X0 : Stand p l e ({ frames := 0, cells := 0, slots := 0, locals := 0 } : Room) s m #[(.int p0)] below meth c s₁ [] 0 0 := Stand.of_body Bd
  have e0 : s₁.heap = h0 := by rw [← hh, Bd.state]; rfl
  have N0 := Fr.nil n0
  have pre0 : ∀ t, Steps p.tables e below (s₁.setTop (mkF m 0 #[.val (.int p0), .unset, .unset] [])) t → Steps p.tables e below (s₁.setTop (entryFrame m #[(.int p0)] 3)) t := fun t k => castTop (ef_2 m p0) k
  show Done p e below _ _
  refine Done.of ?_ pre0
  have J14_1 : ∀ wj : Int32, wj = (if (((p0.toInt64) - (1 : Int64)) &&& (4294967295 : Int64)) < (1000 : Int64) then (1 : Int32) else (0 : Int32)) → ∀ target, Steps p.tables e below (s₁.setTop (mkF m 22 #[.val (.int p0), .val (.long (((p0.toInt64) - (1 : Int64)) &&& (4294967295 : Int64))), .second] [(.int wj)])) target → Steps p.tables e below (s₁.setTop (mkF m 14 #[.val (.int p0), .val (.long (((p0.toInt64) - (1 : Int64)) &&& (4294967295 : Int64))), .second] [(.int (lcmpW (((p0.toInt64) - (1 : Int64)) &&& (4294967295 : Int64)) (1000 : Int64)))])) target := by
    intro wj hw0 target kt
    by_cases hj14 : (((p0.toInt64) - (1 : Int64)) &&& (4294967295 : Int64)) < (1000 : Int64)
    · rw [if_pos hj14] at hw0
      show Steps p.tables e below (s₁.setTop (mkF m 14 #[.val (.int p0), .val (.long (((p0.toInt64) - (1 : Int64)) &&& (4294967295 : Int64))), .second] [(.int (lcmpW (((p0.toInt64) - (1 : Int64)) &&& (4294967295 : Int64)) (1000 : Int64)))])) _
      refine XS.ifNo X0.here hx rfl (hb hby d2_14) rfl ((if0 _ _).trans (tlt ((lw_lt (((p0.toInt64) - (1 : Int64)) &&& (4294967295 : Int64)) (1000 : Int64)).mpr hj14)).2.1) ?_
      show Steps p.tables e below (s₁.setTop (mkF m 17 #[.val (.int p0), .val (.long (((p0.toInt64) - (1 : Int64)) &&& (4294967295 : Int64))), .second] [])) _
      refine XS.iconst X0.here hx rfl (hb hby d2_17) ?_
      show Steps p.tables e below (s₁.setTop (mkF m 18 #[.val (.int p0), .val (.long (((p0.toInt64) - (1 : Int64)) &&& (4294967295 : Int64))), .second] [(.int (1 : Int32))])) _
      refine XS.goto X0.here hx rfl (pc0 := 18) (pc' := 22) rfl (hb hby d2_18) (by decide) (by decide) ?_
      rw [hw0] at kt
      exact kt
    · rw [if_neg hj14] at hw0
      show Steps p.tables e below (s₁.setTop (mkF m 14 #[.val (.int p0), .val (.long (((p0.toInt64) - (1 : Int64)) &&& (4294967295 : Int64))), .second] [(.int (lcmpW (((p0.toInt64) - (1 : Int64)) &&& (4294967295 : Int64)) (1000 : Int64)))])) _
      refine XS.ifYes X0.here hx rfl (pc0 := 14) (pc' := 21) rfl (hb hby d2_14) rfl ((if0 _ _).trans (flt (fun q => hj14 ((lw_lt (((p0.toInt64) - (1 : Int64)) &&& (4294967295 : Int64)) (1000 : Int64)).mp q))).2.1) (by decide) (by decide) ?_
      show Steps p.tables e below (s₁.setTop (mkF m 21 #[.val (.int p0), .val (.long (((p0.toInt64) - (1 : Int64)) &&& (4294967295 : Int64))), .second] [])) _
      refine XS.iconst X0.here hx rfl (hb hby d2_21) ?_
      rw [hw0] at kt
      exact kt
  obtain ⟨fs, hr, hrun, hended, hW, hsame⟩ := X0.leave (v := some (.int (nar .boolean (if (((p0.toInt64) - (1 : Int64)) &&& (4294967295 : Int64)) < (1000 : Int64) then (1 : Int32) else (0 : Int32))))) (fun h => by rw [Bd.returns] at h; cases h)
  refine ⟨_, _, ?_, hrun, hended, _, _, rfl, ?_, ⟨_, rfl⟩, hW, hsame.mono (by decide) (by decide)⟩
  · show Steps p.tables e below (s₁.setTop (mkF m 0 #[.val (.int p0), .unset, .unset] [])) _
    refine XS.iloadN X0.here hx rfl (hb hby d2_0) rfl ?_
    show Steps p.tables e below (s₁.setTop (mkF m 1 #[.val (.int p0), .unset, .unset] [(.int p0)])) _
    refine XS.i2l X0.here hx rfl (hb hby d2_1) rfl ?_
    show Steps p.tables e below (s₁.setTop (mkF m 2 #[.val (.int p0), .unset, .unset] [(.long (p0.toInt64))])) _
    refine XS.lconst X0.here hx rfl (hb hby d2_2) ?_
    show Steps p.tables e below (s₁.setTop (mkF m 3 #[.val (.int p0), .unset, .unset] [(.long (1 : Int64)), (.long (p0.toInt64))])) _
    refine XS.lsub X0.here hx rfl (hb hby d2_3) rfl ?_
    show Steps p.tables e below (s₁.setTop (mkF m 4 #[.val (.int p0), .unset, .unset] [(.long ((p0.toInt64) - (1 : Int64)))])) _
    refine X0.ldc2Long hx hown (mvT hZ (hw _ (List.mem_of_getElem? (i := 8) rfl))) (g := (mkF m 4 #[.val (.int p0), .unset, .unset] [(.long ((p0.toInt64) - (1 : Int64)))])) rfl (hb hby d2_4) _ ?_
    show Steps p.tables e below (s₁.setTop (mkF m 7 #[.val (.int p0), .unset, .unset] [(.long (4294967295 : Int64)), (.long ((p0.toInt64) - (1 : Int64)))])) _
    refine XS.land X0.here hx rfl (hb hby d2_7) rfl ?_
    show Steps p.tables e below (s₁.setTop (mkF m 8 #[.val (.int p0), .unset, .unset] [(.long (((p0.toInt64) - (1 : Int64)) &&& (4294967295 : Int64)))])) _
    refine XS.lstoreN X0.here hx rfl (hb hby d2_8) rfl (l' := #[.val (.int p0), .val (.long (((p0.toInt64) - (1 : Int64)) &&& (4294967295 : Int64))), .second]) rfl ?_
    show Steps p.tables e below (s₁.setTop (mkF m 9 #[.val (.int p0), .val (.long (((p0.toInt64) - (1 : Int64)) &&& (4294967295 : Int64))), .second] [])) _
    refine XS.lloadN X0.here hx rfl (hb hby d2_9) rfl ?_
    show Steps p.tables e below (s₁.setTop (mkF m 10 #[.val (.int p0), .val (.long (((p0.toInt64) - (1 : Int64)) &&& (4294967295 : Int64))), .second] [(.long (((p0.toInt64) - (1 : Int64)) &&& (4294967295 : Int64)))])) _
    refine X0.ldc2Long hx hown (mvT hZ (hw _ (List.mem_of_getElem? (i := 9) rfl))) (g := (mkF m 10 #[.val (.int p0), .val (.long (((p0.toInt64) - (1 : Int64)) &&& (4294967295 : Int64))), .second] [(.long (((p0.toInt64) - (1 : Int64)) &&& (4294967295 : Int64)))])) rfl (hb hby d2_10) _ ?_
    show Steps p.tables e below (s₁.setTop (mkF m 13 #[.val (.int p0), .val (.long (((p0.toInt64) - (1 : Int64)) &&& (4294967295 : Int64))), .second] [(.long (1000 : Int64)), (.long (((p0.toInt64) - (1 : Int64)) &&& (4294967295 : Int64)))])) _
    refine XS.lcmp X0.here hx rfl (hb hby d2_13) rfl ?_
    show Steps p.tables e below (s₁.setTop (mkF m 14 #[.val (.int p0), .val (.long (((p0.toInt64) - (1 : Int64)) &&& (4294967295 : Int64))), .second] [(.int (lcmpW (((p0.toInt64) - (1 : Int64)) &&& (4294967295 : Int64)) (1000 : Int64)))])) _
    refine J14_1 _ rfl _ ?_
    show Steps p.tables e below (s₁.setTop (mkF m 22 #[.val (.int p0), .val (.long (((p0.toInt64) - (1 : Int64)) &&& (4294967295 : Int64))), .second] [(.int (if (((p0.toInt64) - (1 : Int64)) &&& (4294967295 : Int64)) < (1000 : Int64) then (1 : Int32) else (0 : Int32)))])) _
    exact retN X0 hx (t := .boolean) Bd.returns (by simp) (hb hby d2_22) hr
  · show Q2 Z p0  h0 n0 _ s₁.heap _
    rw [e0]
    refine ⟨?_, N0, rfl⟩
    (unfold own_e; (repeat' split) <;> first | rfl | (exfalso; omega))
theorem d3_0 : decode method_3_code 0 = .ok (.iload_n 0, 1) := by decide +kernel
theorem d3_1 : decode method_3_code 1 = .ok (.ifCond .ne 5, 3) := by decide +kernel
theorem d3_4 : decode method_3_code 4 = .ok (.iconst 1, 1) := by decide +kernel
theorem d3_5 : decode method_3_code 5 = .ok (.ireturn, 1) := by decide +kernel
theorem d3_6 : decode method_3_code 6 = .ok (.iload_n 0, 1) := by decide +kernel
theorem d3_7 : decode method_3_code 7 = .ok (.iconst 1, 1) := by decide +kernel
theorem d3_8 : decode method_3_code 8 = .ok (.if_icmp .ne 7, 3) := by decide +kernel
theorem d3_11 : decode method_3_code 11 = .ok (.sipush 1000, 3) := by decide +kernel
theorem d3_14 : decode method_3_code 14 = .ok (.ireturn, 1) := by decide +kernel
theorem d3_15 : decode method_3_code 15 = .ok (.iload_n 0, 1) := by decide +kernel
theorem d3_16 : decode method_3_code 16 = .ok (.iconst 2, 1) := by decide +kernel
theorem d3_17 : decode method_3_code 17 = .ok (.if_icmp .ne 5, 3) := by decide +kernel
theorem d3_20 : decode method_3_code 20 = .ok (.iconst 0, 1) := by decide +kernel
theorem d3_21 : decode method_3_code 21 = .ok (.ireturn, 1) := by decide +kernel
theorem d3_22 : decode method_3_code 22 = .ok (.ldc 15, 2) := by decide +kernel
theorem d3_24 : decode method_3_code 24 = .ok (.ireturn, 1) := by decide +kernel
theorem pn_3 : plainName "com/example/brokerwire/brokerwire/StoreIsValidPartitionCountPinLaw" = true := by first | (simp [plainName, overriddenIn]; done) | decide +kernel
theorem ef_3 (m : MethodId) (p0 : Int32)  : entryFrame m #[(.int p0)] 1 = mkF m 0 #[.val (.int p0)] [] := by first | (simp [entryFrame, mkF, argsToLocals, Value.category]; done) | rfl
def Q3 (Z : State) (p0 : Int32) (h0 : Heap) (n0 : Nat) (v : Option Value) (h : Heap) (L : List Loc) : Prop := v = some (.int (own_b p0)) ∧ Fr n0 L ∧ h = h0
set_option maxRecDepth 65536 in
set_option maxHeartbeats 40000000 in
theorem rm3 (l : Launch) (Z : State) (a0 : Array Value) (hw : ∀ d ∈ tables_1, d.before a0 Z = true) (ws : List Jvm.Cond) (p0 : Int32) (h0 : Heap) (n0 : Nat) (Z0 : n0 ≤ h0.size) :
    MetFree l (⟨"com/example/brokerwire/brokerwire/StoreIsValidPartitionCountPinLaw", "boundary", "(I)I"⟩ : MethodName) (head1 (Jvm.Cond.code (⟨"com/example/brokerwire/brokerwire/StoreIsValidPartitionCountPinLaw", "boundary", "(I)I"⟩ : MethodName) method_3_code 1 (some .int) :: ws) ({ frames := 0, cells := 0, slots := 0, locals := 0 } : Room)) (fun a U => a = #[(.int p0)] ∧ Z.Warmed39 U.vm ∧ U.heap = h0) (fun _ _ _ _ _ => True) (fun _ U o U' => ∃ v L, o = .returned v ∧ Q3 Z p0 h0 n0 v U'.heap L ∧ FrameEnd U o U' L ({ frames := 0, cells := 0, slots := 0, locals := 0 } : Room).cells ({ frames := 0, cells := 0, slots := 0, locals := 0 } : Room).slots) := by
  refine MetFree.of_bodySF (plainFor_of_name pn_3) hisR ?_
  intro p e s m args below meth c s₁ Bd hml0 hP hK
  obtain ⟨rfl, hZ, hh⟩ := hP
  have hx := Bd.exec
  have hby := Bd.bytes
  have hml : c.maxLocals = 1 := hml0
  have hown : s.vm.findClass "com/example/brokerwire/brokerwire/StoreIsValidPartitionCountPinLaw" = some m.cls := findClass_of_methodNamed Bd.named
  have hnm := (name_of_methodNamed Bd.named Bd.method).1
  have X0 : Stand p l e ({ frames := 0, cells := 0, slots := 0, locals := 0 } : Room) s m #[(.int p0)] below meth c s₁ [] 0 0 := Stand.of_body Bd
  have e0 : s₁.heap = h0 := by rw [← hh, Bd.state]; rfl
  have N0 := Fr.nil n0
  have pre0 : ∀ t, Steps p.tables e below (s₁.setTop (mkF m 0 #[.val (.int p0)] [])) t → Steps p.tables e below (s₁.setTop (entryFrame m #[(.int p0)] 1)) t := fun t k => castTop (ef_3 m p0) k
  show Done p e below _ _
  refine Done.of ?_ pre0
  have K1 : ∀ target, Steps p.tables e below (s₁.setTop (mkF m 1 #[.val (.int p0)] [(.int p0)])) target → Steps p.tables e below (s₁.setTop (mkF m 0 #[.val (.int p0)] [])) target := by
    intro target kt
    show Steps p.tables e below (s₁.setTop (mkF m 0 #[.val (.int p0)] [])) _
    refine XS.iloadN X0.here hx rfl (hb hby d3_0) rfl ?_
    exact kt
  refine Done.of ?_ K1
  by_cases hc1_2 : p0 = (0 : Int32)
  · have K : ∀ target, Steps p.tables e below (s₁.setTop (mkF m 4 #[.val (.int p0)] [])) target → Steps p.tables e below (s₁.setTop (mkF m 1 #[.val (.int p0)] [(.int p0)])) target := by
      intro target kt
      refine XS.ifNo X0.here hx rfl (hb hby d3_1) rfl ((if0 _ _).trans (teq hc1_2).2) ?_
      exact kt
    refine Done.of ?_ K
    obtain ⟨fs, hr, hrun, hended, hW, hsame⟩ := X0.leave (v := some (.int (1 : Int32))) (fun h => by rw [Bd.returns] at h; cases h)
    refine ⟨_, _, ?_, hrun, hended, _, _, rfl, ?_, ⟨_, rfl⟩, hW, hsame.mono (by decide) (by decide)⟩
    · show Steps p.tables e below (s₁.setTop (mkF m 4 #[.val (.int p0)] [])) _
      refine XS.iconst X0.here hx rfl (hb hby d3_4) ?_
      show Steps p.tables e below (s₁.setTop (mkF m 5 #[.val (.int p0)] [(.int (1 : Int32))])) _
      exact retI X0 hx Bd.returns (hb hby d3_5) hr
    · show Q3 Z p0  h0 n0 _ s₁.heap _
      rw [e0]
      refine ⟨?_, N0, rfl⟩
      (unfold own_b; simp only [if_pos hc1_2])
  · have K : ∀ target, Steps p.tables e below (s₁.setTop (mkF m 6 #[.val (.int p0)] [])) target → Steps p.tables e below (s₁.setTop (mkF m 1 #[.val (.int p0)] [(.int p0)])) target := by
      intro target kt
      refine XS.ifYes X0.here hx rfl (pc0 := 1) (pc' := 6) rfl (hb hby d3_1) rfl ((if0 _ _).trans (feq hc1_2).2) (by decide) (by decide) ?_
      exact kt
    refine Done.of ?_ K
    have K3 : ∀ target, Steps p.tables e below (s₁.setTop (mkF m 8 #[.val (.int p0)] [(.int (1 : Int32)), (.int p0)])) target → Steps p.tables e below (s₁.setTop (mkF m 6 #[.val (.int p0)] [])) target := by
      intro target kt
      show Steps p.tables e below (s₁.setTop (mkF m 6 #[.val (.int p0)] [])) _
      refine XS.iloadN X0.here hx rfl (hb hby d3_6) rfl ?_
      show Steps p.tables e below (s₁.setTop (mkF m 7 #[.val (.int p0)] [(.int p0)])) _
      refine XS.iconst X0.here hx rfl (hb hby d3_7) ?_
      exact kt
    refine Done.of ?_ K3
    by_cases hc8_4 : p0 = (1 : Int32)
    · have K : ∀ target, Steps p.tables e below (s₁.setTop (mkF m 11 #[.val (.int p0)] [])) target → Steps p.tables e below (s₁.setTop (mkF m 8 #[.val (.int p0)] [(.int (1 : Int32)), (.int p0)])) target := by
        intro target kt
        refine XS.icmpNo X0.here hx rfl (hb hby d3_8) rfl (teq hc8_4).2 ?_
        exact kt
      refine Done.of ?_ K
      obtain ⟨fs, hr, hrun, hended, hW, hsame⟩ := X0.leave (v := some (.int (1000 : Int32))) (fun h => by rw [Bd.returns] at h; cases h)
      refine ⟨_, _, ?_, hrun, hended, _, _, rfl, ?_, ⟨_, rfl⟩, hW, hsame.mono (by decide) (by decide)⟩
      · show Steps p.tables e below (s₁.setTop (mkF m 11 #[.val (.int p0)] [])) _
        refine XS.sipush X0.here hx rfl (hb hby d3_11) ?_
        show Steps p.tables e below (s₁.setTop (mkF m 14 #[.val (.int p0)] [(.int (1000 : Int32))])) _
        exact retI X0 hx Bd.returns (hb hby d3_14) hr
      · show Q3 Z p0  h0 n0 _ s₁.heap _
        rw [e0]
        refine ⟨?_, N0, rfl⟩
        (unfold own_b; simp only [if_neg hc1_2, if_pos hc8_4])
    · have K : ∀ target, Steps p.tables e below (s₁.setTop (mkF m 15 #[.val (.int p0)] [])) target → Steps p.tables e below (s₁.setTop (mkF m 8 #[.val (.int p0)] [(.int (1 : Int32)), (.int p0)])) target := by
        intro target kt
        refine XS.icmpYes X0.here hx rfl (pc0 := 8) (pc' := 15) rfl (hb hby d3_8) rfl (feq hc8_4).2 (by decide) (by decide) ?_
        exact kt
      refine Done.of ?_ K
      have K5 : ∀ target, Steps p.tables e below (s₁.setTop (mkF m 17 #[.val (.int p0)] [(.int (2 : Int32)), (.int p0)])) target → Steps p.tables e below (s₁.setTop (mkF m 15 #[.val (.int p0)] [])) target := by
        intro target kt
        show Steps p.tables e below (s₁.setTop (mkF m 15 #[.val (.int p0)] [])) _
        refine XS.iloadN X0.here hx rfl (hb hby d3_15) rfl ?_
        show Steps p.tables e below (s₁.setTop (mkF m 16 #[.val (.int p0)] [(.int p0)])) _
        refine XS.iconst X0.here hx rfl (hb hby d3_16) ?_
        exact kt
      refine Done.of ?_ K5
      by_cases hc17_6 : p0 = (2 : Int32)
      · have K : ∀ target, Steps p.tables e below (s₁.setTop (mkF m 20 #[.val (.int p0)] [])) target → Steps p.tables e below (s₁.setTop (mkF m 17 #[.val (.int p0)] [(.int (2 : Int32)), (.int p0)])) target := by
          intro target kt
          refine XS.icmpNo X0.here hx rfl (hb hby d3_17) rfl (teq hc17_6).2 ?_
          exact kt
        refine Done.of ?_ K
        obtain ⟨fs, hr, hrun, hended, hW, hsame⟩ := X0.leave (v := some (.int (0 : Int32))) (fun h => by rw [Bd.returns] at h; cases h)
        refine ⟨_, _, ?_, hrun, hended, _, _, rfl, ?_, ⟨_, rfl⟩, hW, hsame.mono (by decide) (by decide)⟩
        · show Steps p.tables e below (s₁.setTop (mkF m 20 #[.val (.int p0)] [])) _
          refine XS.iconst X0.here hx rfl (hb hby d3_20) ?_
          show Steps p.tables e below (s₁.setTop (mkF m 21 #[.val (.int p0)] [(.int (0 : Int32))])) _
          exact retI X0 hx Bd.returns (hb hby d3_21) hr
        · show Q3 Z p0  h0 n0 _ s₁.heap _
          rw [e0]
          refine ⟨?_, N0, rfl⟩
          (unfold own_b; simp only [if_neg hc1_2, if_neg hc8_4, if_pos hc17_6])
      · have K : ∀ target, Steps p.tables e below (s₁.setTop (mkF m 22 #[.val (.int p0)] [])) target → Steps p.tables e below (s₁.setTop (mkF m 17 #[.val (.int p0)] [(.int (2 : Int32)), (.int p0)])) target := by
          intro target kt
          refine XS.icmpYes X0.here hx rfl (pc0 := 17) (pc' := 22) rfl (hb hby d3_17) rfl (feq hc17_6).2 (by decide) (by decide) ?_
          exact kt
        refine Done.of ?_ K
        obtain ⟨fs, hr, hrun, hended, hW, hsame⟩ := X0.leave (v := some (.int (-2147483648 : Int32))) (fun h => by rw [Bd.returns] at h; cases h)
        refine ⟨_, _, ?_, hrun, hended, _, _, rfl, ?_, ⟨_, rfl⟩, hW, hsame.mono (by decide) (by decide)⟩
        · show Steps p.tables e below (s₁.setTop (mkF m 22 #[.val (.int p0)] [])) _
          refine X0.ldcInt hx hown (mvT hZ (hw _ (List.mem_of_getElem? (i := 13) rfl))) (g := (mkF m 22 #[.val (.int p0)] [])) rfl (hb hby d3_22) _ ?_
          show Steps p.tables e below (s₁.setTop (mkF m 24 #[.val (.int p0)] [(.int (-2147483648 : Int32))])) _
          exact retI X0 hx Bd.returns (hb hby d3_24) hr
        · show Q3 Z p0  h0 n0 _ s₁.heap _
          rw [e0]
          refine ⟨?_, N0, rfl⟩
          (unfold own_b; simp only [if_neg hc1_2, if_neg hc8_4, if_neg hc17_6])
theorem pn_0 : plainName "com/example/brokerwire/brokerwire/StoreIsValidPartitionCountPinLaw" = true := by first | (simp [plainName, overriddenIn]; done) | decide +kernel
theorem pd_0 : parseMethodDescriptor "(I)Z" = some ⟨[.int], some .boolean⟩ := by decide +kernel
theorem pd_1 : parseMethodDescriptor "(I)I" = some ⟨[.int], some .int⟩ := by decide +kernel
theorem ef_0 (m : MethodId) (p0 : Int32) (p1 : Int32)  : entryFrame m #[(.int p0), (.int p1)] maxLocals = mkF m 0 #[.val (.int p0), .val (.int p1), .unset, .unset, .unset] [] := by first | (simp [entryFrame, mkF, argsToLocals, Value.category, maxLocals]; done) | rfl
def Q0 (Z : State) (p0 : Int32) (p1 : Int32) (h0 : Heap) (n0 : Nat) (v : Option Value) (h : Heap) (L : List Loc) : Prop := v = some (.int 1) ∧ Fr n0 L
set_option maxRecDepth 65536 in
set_option maxHeartbeats 40000000 in
theorem rm0 (l : Launch) (Z : State) (a0 : Array Value) (hw : ∀ d ∈ tables_1, d.before a0 Z = true) (ws : List Jvm.Cond) (p0 : Int32) (p1 : Int32) (h0 : Heap) (n0 : Nat) (Z0 : n0 ≤ h0.size) :
    MetFree l x (head1 (Jvm.Cond.code x code maxLocals ret :: ws) room_1) (fun a U => a = #[(.int p0), (.int p1)] ∧ Z.Warmed39 U.vm ∧ U.heap = h0) (fun _ _ _ _ _ => True) (fun _ U o U' => ∃ v L, o = .returned v ∧ Q0 Z p0 p1 h0 n0 v U'.heap L ∧ FrameEnd U o U' L room_1.cells room_1.slots) := by
  refine MetFree.of_bodySF (plainFor_of_name pn_0) hisR ?_
  intro p e s m args below meth c s₁ Bd hml0 hP hK
  obtain ⟨rfl, hZ, hh⟩ := hP
  have hx := Bd.exec
  have hby := Bd.bytes
  have hml : c.maxLocals = 5 := hml0
  have hown : s.vm.findClass "com/example/brokerwire/brokerwire/StoreIsValidPartitionCountPinLaw" = some m.cls := findClass_of_methodNamed Bd.named
  have hnm := (name_of_methodNamed Bd.named Bd.method).1
  have X0 : Stand p l e room_1 s m #[(.int p0), (.int p1)] below meth c s₁ [] 0 0 := Stand.of_body Bd
  have e0 : s₁.heap = h0 := by rw [← hh, Bd.state]; rfl
  have N0 := Fr.nil n0
  have pre0 : ∀ t, Steps p.tables e below (s₁.setTop (mkF m 0 #[.val (.int p0), .val (.int p1), .unset, .unset, .unset] [])) t → Steps p.tables e below (s₁.setTop (entryFrame m #[(.int p0), (.int p1)] maxLocals)) t := fun t k => castTop (ef_0 m p0 p1) k
  show Done p e below _ _
  refine Done.of ?_ pre0
  obtain ⟨_, _, ⟨T1, L1, k1, n1⟩, -, X1, ⟨Lc1, hQ1, l1, y1, z1⟩, st1⟩ := Jvm.LawKit.callS X0 hx (y := (⟨"com/example/brokerwire/brokerwire/Store", "isValidPartitionCount", "(I)Z"⟩ : MethodName)) hown (mvT hZ (hw _ (List.mem_of_getElem? (i := 0) rfl))) (mvT hZ (hw _ (List.mem_of_getElem? (i := 1) rfl))) (mvT hZ (hw _ (List.mem_of_getElem? (i := 2) rfl))) (mvT hZ (hw _ (List.mem_of_getElem? (i := 3) rfl))) (by decide) (backOf (W := 0) (rm1 l Z a0 hw [] p0 h0 n0 Z0 ) hZ (hw _ (List.mem_of_getElem? (i := 3) rfl)) (hw _ (List.mem_of_getElem? (i := 2) rfl)) (by decide) (by decide)) (g := (mkF m 1 #[.val (.int p0), .val (.int p1), .unset, .unset, .unset] [(.int p0)])) rfl (by rw [hml]; rfl) (argsL := [(.int p0)]) (rest := []) (lenOf pd_0 rfl) rfl (by show 2 * 0 + _ ≤ _; exact Nat.le_of_eq rfl) (hb hby at_1) (fun _ _ => ⟨rfl, e0, (by decide : 0 + 0 ≤ _), (by decide : 0 + 0 ≤ _)⟩)
  dsimp only [Pt.U, Pt.locs, Pt.cells, Pt.slots] at X1 l1 y1 z1 st1 hQ1
  subst l1 y1 z1
  obtain ⟨rfl, N1q, e1⟩ := hQ1
  have N1 := Fr.app N0 N1q
  obtain ⟨_, _, ⟨T2, L2, k2, n2⟩, -, X2, ⟨Lc2, hQ2, l2, y2, z2⟩, st2⟩ := Jvm.LawKit.callS X1 hx (y := (⟨"com/example/brokerwire/brokerwire/StoreIsValidPartitionCountPinLaw", "expected", "(I)Z"⟩ : MethodName)) hown (mvT hZ (hw _ (List.mem_of_getElem? (i := 4) rfl))) (mvT hZ (hw _ (List.mem_of_getElem? (i := 5) rfl))) (mvT hZ (hw _ (List.mem_of_getElem? (i := 6) rfl))) (mvT hZ (hw _ (List.mem_of_getElem? (i := 7) rfl))) (by decide) (backOf (W := 1) (rm2 l Z a0 hw [] p0 h0 n0 Z0 ) hZ (hw _ (List.mem_of_getElem? (i := 7) rfl)) (hw _ (List.mem_of_getElem? (i := 6) rfl)) (by decide) (by decide)) (g := (mkF m 5 #[.val (.int p0), .val (.int p1), .unset, .unset, .unset] [(.int p0), (.int (own_v p0))])) rfl (by rw [hml]; rfl) (argsL := [(.int p0)]) (rest := [(.int (own_v p0))]) (lenOf pd_0 rfl) rfl (by show 2 * 0 + _ ≤ _; exact Nat.le_of_eq rfl) (hb hby at_5) (fun _ _ => ⟨rfl, e1, (by decide : 0 + 0 ≤ _), (by decide : 0 + 0 ≤ _)⟩)
  dsimp only [Pt.U, Pt.locs, Pt.cells, Pt.slots] at X2 l2 y2 z2 st2 hQ2
  subst l2 y2 z2
  obtain ⟨rfl, N2q, e2⟩ := hQ2
  have N2 := Fr.app N1 N2q
  have J8_3 : ∀ wj : Int32, wj = (if (own_v p0) = (own_e p0) then (1 : Int32) else (0 : Int32)) → ∀ target, Steps p.tables e below (T2.setTop (mkF m 16 #[.val (.int p0), .val (.int p1), .unset, .unset, .unset] [(.int wj)])) target → Steps p.tables e below (T2.setTop (mkF m 8 #[.val (.int p0), .val (.int p1), .unset, .unset, .unset] [(.int (own_e p0)), (.int (own_v p0))])) target := by
    intro wj hw0 target kt
    by_cases hj8 : (own_v p0) = (own_e p0)
    · rw [if_pos hj8] at hw0
      show Steps p.tables e below (T2.setTop (mkF m 8 #[.val (.int p0), .val (.int p1), .unset, .unset, .unset] [(.int (own_e p0)), (.int (own_v p0))])) _
      refine XS.icmpNo X2.here hx rfl (hb hby at_8) rfl (teq hj8).2 ?_
      show Steps p.tables e below (T2.setTop (mkF m 11 #[.val (.int p0), .val (.int p1), .unset, .unset, .unset] [])) _
      refine XS.iconst X2.here hx rfl (hb hby at_11) ?_
      show Steps p.tables e below (T2.setTop (mkF m 12 #[.val (.int p0), .val (.int p1), .unset, .unset, .unset] [(.int (1 : Int32))])) _
      refine XS.goto X2.here hx rfl (pc0 := 12) (pc' := 16) rfl (hb hby at_12) (by decide) (by decide) ?_
      rw [hw0] at kt
      exact kt
    · rw [if_neg hj8] at hw0
      show Steps p.tables e below (T2.setTop (mkF m 8 #[.val (.int p0), .val (.int p1), .unset, .unset, .unset] [(.int (own_e p0)), (.int (own_v p0))])) _
      refine XS.icmpYes X2.here hx rfl (pc0 := 8) (pc' := 15) rfl (hb hby at_8) rfl (feq hj8).2 (by decide) (by decide) ?_
      show Steps p.tables e below (T2.setTop (mkF m 15 #[.val (.int p0), .val (.int p1), .unset, .unset, .unset] [])) _
      refine XS.iconst X2.here hx rfl (hb hby at_15) ?_
      rw [hw0] at kt
      exact kt
  obtain ⟨_, _, ⟨T4, L4, k4, n4⟩, -, X4, ⟨Lc4, hQ4, l4, y4, z4⟩, st4⟩ := Jvm.LawKit.callS X2 hx (y := (⟨"com/example/brokerwire/brokerwire/StoreIsValidPartitionCountPinLaw", "boundary", "(I)I"⟩ : MethodName)) hown (mvT hZ (hw _ (List.mem_of_getElem? (i := 10) rfl))) (mvT hZ (hw _ (List.mem_of_getElem? (i := 11) rfl))) (mvT hZ (hw _ (List.mem_of_getElem? (i := 6) rfl))) (mvT hZ (hw _ (List.mem_of_getElem? (i := 12) rfl))) (by decide) (backOf (W := 0) (rm3 l Z a0 hw [] (((p1.toUInt32 >>> ((3 : Int32) &&& 31).toUInt32).toInt32) &&& (3 : Int32)) h0 n0 Z0 ) hZ (hw _ (List.mem_of_getElem? (i := 12) rfl)) (hw _ (List.mem_of_getElem? (i := 6) rfl)) (by decide) (by decide)) (g := (mkF m 22 #[.val (.int p0), .val (.int p1), .val (.int (if (own_v p0) = (own_e p0) then (1 : Int32) else (0 : Int32))), .unset, .unset] [(.int (((p1.toUInt32 >>> ((3 : Int32) &&& 31).toUInt32).toInt32) &&& (3 : Int32)))])) rfl (by rw [hml]; rfl) (argsL := [(.int (((p1.toUInt32 >>> ((3 : Int32) &&& 31).toUInt32).toInt32) &&& (3 : Int32)))]) (rest := []) (lenOf pd_1 rfl) rfl (by show 2 * 0 + _ ≤ _; exact Nat.le_of_eq rfl) (hb hby at_22) (fun _ _ => ⟨rfl, e2, (by decide : 0 + 0 ≤ _), (by decide : 0 + 0 ≤ _)⟩)
  dsimp only [Pt.U, Pt.locs, Pt.cells, Pt.slots] at X4 l4 y4 z4 st4 hQ4
  subst l4 y4 z4
  obtain ⟨rfl, N4q, e4⟩ := hQ4
  have N4 := Fr.app N2 N4q
  obtain ⟨_, _, ⟨T5, L5, k5, n5⟩, -, X5, ⟨Lc5, hQ5, l5, y5, z5⟩, st5⟩ := Jvm.LawKit.callS X4 hx (y := (⟨"com/example/brokerwire/brokerwire/Store", "isValidPartitionCount", "(I)Z"⟩ : MethodName)) hown (mvT hZ (hw _ (List.mem_of_getElem? (i := 0) rfl))) (mvT hZ (hw _ (List.mem_of_getElem? (i := 1) rfl))) (mvT hZ (hw _ (List.mem_of_getElem? (i := 2) rfl))) (mvT hZ (hw _ (List.mem_of_getElem? (i := 3) rfl))) (by decide) (backOf (W := 0) (rm1 l Z a0 hw [] ((own_b (((p1.toUInt32 >>> ((3 : Int32) &&& 31).toUInt32).toInt32) &&& (3 : Int32))) + ((p1 &&& (7 : Int32)) - (4 : Int32))) h0 n0 Z0 ) hZ (hw _ (List.mem_of_getElem? (i := 3) rfl)) (hw _ (List.mem_of_getElem? (i := 2) rfl)) (by decide) (by decide)) (g := (mkF m 34 #[.val (.int p0), .val (.int p1), .val (.int (if (own_v p0) = (own_e p0) then (1 : Int32) else (0 : Int32))), .val (.int ((own_b (((p1.toUInt32 >>> ((3 : Int32) &&& 31).toUInt32).toInt32) &&& (3 : Int32))) + ((p1 &&& (7 : Int32)) - (4 : Int32)))), .unset] [(.int ((own_b (((p1.toUInt32 >>> ((3 : Int32) &&& 31).toUInt32).toInt32) &&& (3 : Int32))) + ((p1 &&& (7 : Int32)) - (4 : Int32))))])) rfl (by rw [hml]; rfl) (argsL := [(.int ((own_b (((p1.toUInt32 >>> ((3 : Int32) &&& 31).toUInt32).toInt32) &&& (3 : Int32))) + ((p1 &&& (7 : Int32)) - (4 : Int32))))]) (rest := []) (lenOf pd_0 rfl) rfl (by show 2 * 0 + _ ≤ _; exact Nat.le_of_eq rfl) (hb hby at_34) (fun _ _ => ⟨rfl, e4, (by decide : 0 + 0 ≤ _), (by decide : 0 + 0 ≤ _)⟩)
  dsimp only [Pt.U, Pt.locs, Pt.cells, Pt.slots] at X5 l5 y5 z5 st5 hQ5
  subst l5 y5 z5
  obtain ⟨rfl, N5q, e5⟩ := hQ5
  have N5 := Fr.app N4 N5q
  obtain ⟨_, _, ⟨T6, L6, k6, n6⟩, -, X6, ⟨Lc6, hQ6, l6, y6, z6⟩, st6⟩ := Jvm.LawKit.callS X5 hx (y := (⟨"com/example/brokerwire/brokerwire/StoreIsValidPartitionCountPinLaw", "expected", "(I)Z"⟩ : MethodName)) hown (mvT hZ (hw _ (List.mem_of_getElem? (i := 4) rfl))) (mvT hZ (hw _ (List.mem_of_getElem? (i := 5) rfl))) (mvT hZ (hw _ (List.mem_of_getElem? (i := 6) rfl))) (mvT hZ (hw _ (List.mem_of_getElem? (i := 7) rfl))) (by decide) (backOf (W := 1) (rm2 l Z a0 hw [] ((own_b (((p1.toUInt32 >>> ((3 : Int32) &&& 31).toUInt32).toInt32) &&& (3 : Int32))) + ((p1 &&& (7 : Int32)) - (4 : Int32))) h0 n0 Z0 ) hZ (hw _ (List.mem_of_getElem? (i := 7) rfl)) (hw _ (List.mem_of_getElem? (i := 6) rfl)) (by decide) (by decide)) (g := (mkF m 38 #[.val (.int p0), .val (.int p1), .val (.int (if (own_v p0) = (own_e p0) then (1 : Int32) else (0 : Int32))), .val (.int ((own_b (((p1.toUInt32 >>> ((3 : Int32) &&& 31).toUInt32).toInt32) &&& (3 : Int32))) + ((p1 &&& (7 : Int32)) - (4 : Int32)))), .unset] [(.int ((own_b (((p1.toUInt32 >>> ((3 : Int32) &&& 31).toUInt32).toInt32) &&& (3 : Int32))) + ((p1 &&& (7 : Int32)) - (4 : Int32)))), (.int (own_v ((own_b (((p1.toUInt32 >>> ((3 : Int32) &&& 31).toUInt32).toInt32) &&& (3 : Int32))) + ((p1 &&& (7 : Int32)) - (4 : Int32)))))])) rfl (by rw [hml]; rfl) (argsL := [(.int ((own_b (((p1.toUInt32 >>> ((3 : Int32) &&& 31).toUInt32).toInt32) &&& (3 : Int32))) + ((p1 &&& (7 : Int32)) - (4 : Int32))))]) (rest := [(.int (own_v ((own_b (((p1.toUInt32 >>> ((3 : Int32) &&& 31).toUInt32).toInt32) &&& (3 : Int32))) + ((p1 &&& (7 : Int32)) - (4 : Int32)))))]) (lenOf pd_0 rfl) rfl (by show 2 * 0 + _ ≤ _; exact Nat.le_of_eq rfl) (hb hby at_38) (fun _ _ => ⟨rfl, e5, (by decide : 0 + 0 ≤ _), (by decide : 0 + 0 ≤ _)⟩)
  dsimp only [Pt.U, Pt.locs, Pt.cells, Pt.slots] at X6 l6 y6 z6 st6 hQ6
  subst l6 y6 z6
  obtain ⟨rfl, N6q, e6⟩ := hQ6
  have N6 := Fr.app N5 N6q
  have J41_7 : ∀ wj : Int32, wj = (if (own_v ((own_b (((p1.toUInt32 >>> ((3 : Int32) &&& 31).toUInt32).toInt32) &&& (3 : Int32))) + ((p1 &&& (7 : Int32)) - (4 : Int32)))) = (own_e ((own_b (((p1.toUInt32 >>> ((3 : Int32) &&& 31).toUInt32).toInt32) &&& (3 : Int32))) + ((p1 &&& (7 : Int32)) - (4 : Int32)))) then (1 : Int32) else (0 : Int32)) → ∀ target, Steps p.tables e below (T6.setTop (mkF m 49 #[.val (.int p0), .val (.int p1), .val (.int (if (own_v p0) = (own_e p0) then (1 : Int32) else (0 : Int32))), .val (.int ((own_b (((p1.toUInt32 >>> ((3 : Int32) &&& 31).toUInt32).toInt32) &&& (3 : Int32))) + ((p1 &&& (7 : Int32)) - (4 : Int32)))), .unset] [(.int wj)])) target → Steps p.tables e below (T6.setTop (mkF m 41 #[.val (.int p0), .val (.int p1), .val (.int (if (own_v p0) = (own_e p0) then (1 : Int32) else (0 : Int32))), .val (.int ((own_b (((p1.toUInt32 >>> ((3 : Int32) &&& 31).toUInt32).toInt32) &&& (3 : Int32))) + ((p1 &&& (7 : Int32)) - (4 : Int32)))), .unset] [(.int (own_e ((own_b (((p1.toUInt32 >>> ((3 : Int32) &&& 31).toUInt32).toInt32) &&& (3 : Int32))) + ((p1 &&& (7 : Int32)) - (4 : Int32))))), (.int (own_v ((own_b (((p1.toUInt32 >>> ((3 : Int32) &&& 31).toUInt32).toInt32) &&& (3 : Int32))) + ((p1 &&& (7 : Int32)) - (4 : Int32)))))])) target := by
    intro wj hw0 target kt
    by_cases hj41 : (own_v ((own_b (((p1.toUInt32 >>> ((3 : Int32) &&& 31).toUInt32).toInt32) &&& (3 : Int32))) + ((p1 &&& (7 : Int32)) - (4 : Int32)))) = (own_e ((own_b (((p1.toUInt32 >>> ((3 : Int32) &&& 31).toUInt32).toInt32) &&& (3 : Int32))) + ((p1 &&& (7 : Int32)) - (4 : Int32))))
    · rw [if_pos hj41] at hw0
      show Steps p.tables e below (T6.setTop (mkF m 41 #[.val (.int p0), .val (.int p1), .val (.int (if (own_v p0) = (own_e p0) then (1 : Int32) else (0 : Int32))), .val (.int ((own_b (((p1.toUInt32 >>> ((3 : Int32) &&& 31).toUInt32).toInt32) &&& (3 : Int32))) + ((p1 &&& (7 : Int32)) - (4 : Int32)))), .unset] [(.int (own_e ((own_b (((p1.toUInt32 >>> ((3 : Int32) &&& 31).toUInt32).toInt32) &&& (3 : Int32))) + ((p1 &&& (7 : Int32)) - (4 : Int32))))), (.int (own_v ((own_b (((p1.toUInt32 >>> ((3 : Int32) &&& 31).toUInt32).toInt32) &&& (3 : Int32))) + ((p1 &&& (7 : Int32)) - (4 : Int32)))))])) _
      refine XS.icmpNo X6.here hx rfl (hb hby at_41) rfl (teq hj41).2 ?_
      show Steps p.tables e below (T6.setTop (mkF m 44 #[.val (.int p0), .val (.int p1), .val (.int (if (own_v p0) = (own_e p0) then (1 : Int32) else (0 : Int32))), .val (.int ((own_b (((p1.toUInt32 >>> ((3 : Int32) &&& 31).toUInt32).toInt32) &&& (3 : Int32))) + ((p1 &&& (7 : Int32)) - (4 : Int32)))), .unset] [])) _
      refine XS.iconst X6.here hx rfl (hb hby at_44) ?_
      show Steps p.tables e below (T6.setTop (mkF m 45 #[.val (.int p0), .val (.int p1), .val (.int (if (own_v p0) = (own_e p0) then (1 : Int32) else (0 : Int32))), .val (.int ((own_b (((p1.toUInt32 >>> ((3 : Int32) &&& 31).toUInt32).toInt32) &&& (3 : Int32))) + ((p1 &&& (7 : Int32)) - (4 : Int32)))), .unset] [(.int (1 : Int32))])) _
      refine XS.goto X6.here hx rfl (pc0 := 45) (pc' := 49) rfl (hb hby at_45) (by decide) (by decide) ?_
      rw [hw0] at kt
      exact kt
    · rw [if_neg hj41] at hw0
      show Steps p.tables e below (T6.setTop (mkF m 41 #[.val (.int p0), .val (.int p1), .val (.int (if (own_v p0) = (own_e p0) then (1 : Int32) else (0 : Int32))), .val (.int ((own_b (((p1.toUInt32 >>> ((3 : Int32) &&& 31).toUInt32).toInt32) &&& (3 : Int32))) + ((p1 &&& (7 : Int32)) - (4 : Int32)))), .unset] [(.int (own_e ((own_b (((p1.toUInt32 >>> ((3 : Int32) &&& 31).toUInt32).toInt32) &&& (3 : Int32))) + ((p1 &&& (7 : Int32)) - (4 : Int32))))), (.int (own_v ((own_b (((p1.toUInt32 >>> ((3 : Int32) &&& 31).toUInt32).toInt32) &&& (3 : Int32))) + ((p1 &&& (7 : Int32)) - (4 : Int32)))))])) _
      refine XS.icmpYes X6.here hx rfl (pc0 := 41) (pc' := 48) rfl (hb hby at_41) rfl (feq hj41).2 (by decide) (by decide) ?_
      show Steps p.tables e below (T6.setTop (mkF m 48 #[.val (.int p0), .val (.int p1), .val (.int (if (own_v p0) = (own_e p0) then (1 : Int32) else (0 : Int32))), .val (.int ((own_b (((p1.toUInt32 >>> ((3 : Int32) &&& 31).toUInt32).toInt32) &&& (3 : Int32))) + ((p1 &&& (7 : Int32)) - (4 : Int32)))), .unset] [])) _
      refine XS.iconst X6.here hx rfl (hb hby at_48) ?_
      rw [hw0] at kt
      exact kt
  have J52_8 : ∀ wj : Int32, wj = (if (if (own_v p0) = (own_e p0) then (1 : Int32) else (0 : Int32)) = (0 : Int32) then (0 : Int32) else (if (if (own_v ((own_b (((p1.toUInt32 >>> ((3 : Int32) &&& 31).toUInt32).toInt32) &&& (3 : Int32))) + ((p1 &&& (7 : Int32)) - (4 : Int32)))) = (own_e ((own_b (((p1.toUInt32 >>> ((3 : Int32) &&& 31).toUInt32).toInt32) &&& (3 : Int32))) + ((p1 &&& (7 : Int32)) - (4 : Int32)))) then (1 : Int32) else (0 : Int32)) = (0 : Int32) then (0 : Int32) else (1 : Int32))) → ∀ target, Steps p.tables e below (T6.setTop (mkF m 65 #[.val (.int p0), .val (.int p1), .val (.int (if (own_v p0) = (own_e p0) then (1 : Int32) else (0 : Int32))), .val (.int ((own_b (((p1.toUInt32 >>> ((3 : Int32) &&& 31).toUInt32).toInt32) &&& (3 : Int32))) + ((p1 &&& (7 : Int32)) - (4 : Int32)))), .val (.int (if (own_v ((own_b (((p1.toUInt32 >>> ((3 : Int32) &&& 31).toUInt32).toInt32) &&& (3 : Int32))) + ((p1 &&& (7 : Int32)) - (4 : Int32)))) = (own_e ((own_b (((p1.toUInt32 >>> ((3 : Int32) &&& 31).toUInt32).toInt32) &&& (3 : Int32))) + ((p1 &&& (7 : Int32)) - (4 : Int32)))) then (1 : Int32) else (0 : Int32)))] [(.int wj)])) target → Steps p.tables e below (T6.setTop (mkF m 52 #[.val (.int p0), .val (.int p1), .val (.int (if (own_v p0) = (own_e p0) then (1 : Int32) else (0 : Int32))), .val (.int ((own_b (((p1.toUInt32 >>> ((3 : Int32) &&& 31).toUInt32).toInt32) &&& (3 : Int32))) + ((p1 &&& (7 : Int32)) - (4 : Int32)))), .val (.int (if (own_v ((own_b (((p1.toUInt32 >>> ((3 : Int32) &&& 31).toUInt32).toInt32) &&& (3 : Int32))) + ((p1 &&& (7 : Int32)) - (4 : Int32)))) = (own_e ((own_b (((p1.toUInt32 >>> ((3 : Int32) &&& 31).toUInt32).toInt32) &&& (3 : Int32))) + ((p1 &&& (7 : Int32)) - (4 : Int32)))) then (1 : Int32) else (0 : Int32)))] [(.int (if (own_v p0) = (own_e p0) then (1 : Int32) else (0 : Int32)))])) target := by
    intro wj hw0 target kt
    by_cases hj52 : (if (own_v p0) = (own_e p0) then (1 : Int32) else (0 : Int32)) = (0 : Int32)
    · rw [if_pos hj52] at hw0
      show Steps p.tables e below (T6.setTop (mkF m 52 #[.val (.int p0), .val (.int p1), .val (.int (if (own_v p0) = (own_e p0) then (1 : Int32) else (0 : Int32))), .val (.int ((own_b (((p1.toUInt32 >>> ((3 : Int32) &&& 31).toUInt32).toInt32) &&& (3 : Int32))) + ((p1 &&& (7 : Int32)) - (4 : Int32)))), .val (.int (if (own_v ((own_b (((p1.toUInt32 >>> ((3 : Int32) &&& 31).toUInt32).toInt32) &&& (3 : Int32))) + ((p1 &&& (7 : Int32)) - (4 : Int32)))) = (own_e ((own_b (((p1.toUInt32 >>> ((3 : Int32) &&& 31).toUInt32).toInt32) &&& (3 : Int32))) + ((p1 &&& (7 : Int32)) - (4 : Int32)))) then (1 : Int32) else (0 : Int32)))] [(.int (if (own_v p0) = (own_e p0) then (1 : Int32) else (0 : Int32)))])) _
      refine XS.ifYes X6.here hx rfl (pc0 := 52) (pc' := 64) rfl (hb hby at_52) rfl ((if0 _ _).trans (teq hj52).1) (by decide) (by decide) ?_
      refine XS.iconst X6.here hx rfl (hb hby at_64) ?_
      rw [hw0] at kt
      exact kt
    · rw [if_neg hj52] at hw0
      show Steps p.tables e below (T6.setTop (mkF m 52 #[.val (.int p0), .val (.int p1), .val (.int (if (own_v p0) = (own_e p0) then (1 : Int32) else (0 : Int32))), .val (.int ((own_b (((p1.toUInt32 >>> ((3 : Int32) &&& 31).toUInt32).toInt32) &&& (3 : Int32))) + ((p1 &&& (7 : Int32)) - (4 : Int32)))), .val (.int (if (own_v ((own_b (((p1.toUInt32 >>> ((3 : Int32) &&& 31).toUInt32).toInt32) &&& (3 : Int32))) + ((p1 &&& (7 : Int32)) - (4 : Int32)))) = (own_e ((own_b (((p1.toUInt32 >>> ((3 : Int32) &&& 31).toUInt32).toInt32) &&& (3 : Int32))) + ((p1 &&& (7 : Int32)) - (4 : Int32)))) then (1 : Int32) else (0 : Int32)))] [(.int (if (own_v p0) = (own_e p0) then (1 : Int32) else (0 : Int32)))])) _
      refine XS.ifNo X6.here hx rfl (hb hby at_52) rfl ((if0 _ _).trans (feq hj52).1) ?_
      refine XS.iload X6.here hx rfl (hb hby at_55) rfl ?_
      by_cases hj57 : (if (own_v ((own_b (((p1.toUInt32 >>> ((3 : Int32) &&& 31).toUInt32).toInt32) &&& (3 : Int32))) + ((p1 &&& (7 : Int32)) - (4 : Int32)))) = (own_e ((own_b (((p1.toUInt32 >>> ((3 : Int32) &&& 31).toUInt32).toInt32) &&& (3 : Int32))) + ((p1 &&& (7 : Int32)) - (4 : Int32)))) then (1 : Int32) else (0 : Int32)) = (0 : Int32)
      · rw [if_pos hj57] at hw0
        show Steps p.tables e below (T6.setTop (mkF m 57 #[.val (.int p0), .val (.int p1), .val (.int (if (own_v p0) = (own_e p0) then (1 : Int32) else (0 : Int32))), .val (.int ((own_b (((p1.toUInt32 >>> ((3 : Int32) &&& 31).toUInt32).toInt32) &&& (3 : Int32))) + ((p1 &&& (7 : Int32)) - (4 : Int32)))), .val (.int (if (own_v ((own_b (((p1.toUInt32 >>> ((3 : Int32) &&& 31).toUInt32).toInt32) &&& (3 : Int32))) + ((p1 &&& (7 : Int32)) - (4 : Int32)))) = (own_e ((own_b (((p1.toUInt32 >>> ((3 : Int32) &&& 31).toUInt32).toInt32) &&& (3 : Int32))) + ((p1 &&& (7 : Int32)) - (4 : Int32)))) then (1 : Int32) else (0 : Int32)))] [(.int (if (own_v ((own_b (((p1.toUInt32 >>> ((3 : Int32) &&& 31).toUInt32).toInt32) &&& (3 : Int32))) + ((p1 &&& (7 : Int32)) - (4 : Int32)))) = (own_e ((own_b (((p1.toUInt32 >>> ((3 : Int32) &&& 31).toUInt32).toInt32) &&& (3 : Int32))) + ((p1 &&& (7 : Int32)) - (4 : Int32)))) then (1 : Int32) else (0 : Int32)))])) _
        refine XS.ifYes X6.here hx rfl (pc0 := 57) (pc' := 64) rfl (hb hby at_57) rfl ((if0 _ _).trans (teq hj57).1) (by decide) (by decide) ?_
        refine XS.iconst X6.here hx rfl (hb hby at_64) ?_
        rw [hw0] at kt
        exact kt
      · rw [if_neg hj57] at hw0
        show Steps p.tables e below (T6.setTop (mkF m 57 #[.val (.int p0), .val (.int p1), .val (.int (if (own_v p0) = (own_e p0) then (1 : Int32) else (0 : Int32))), .val (.int ((own_b (((p1.toUInt32 >>> ((3 : Int32) &&& 31).toUInt32).toInt32) &&& (3 : Int32))) + ((p1 &&& (7 : Int32)) - (4 : Int32)))), .val (.int (if (own_v ((own_b (((p1.toUInt32 >>> ((3 : Int32) &&& 31).toUInt32).toInt32) &&& (3 : Int32))) + ((p1 &&& (7 : Int32)) - (4 : Int32)))) = (own_e ((own_b (((p1.toUInt32 >>> ((3 : Int32) &&& 31).toUInt32).toInt32) &&& (3 : Int32))) + ((p1 &&& (7 : Int32)) - (4 : Int32)))) then (1 : Int32) else (0 : Int32)))] [(.int (if (own_v ((own_b (((p1.toUInt32 >>> ((3 : Int32) &&& 31).toUInt32).toInt32) &&& (3 : Int32))) + ((p1 &&& (7 : Int32)) - (4 : Int32)))) = (own_e ((own_b (((p1.toUInt32 >>> ((3 : Int32) &&& 31).toUInt32).toInt32) &&& (3 : Int32))) + ((p1 &&& (7 : Int32)) - (4 : Int32)))) then (1 : Int32) else (0 : Int32)))])) _
        refine XS.ifNo X6.here hx rfl (hb hby at_57) rfl ((if0 _ _).trans (feq hj57).1) ?_
        show Steps p.tables e below (T6.setTop (mkF m 60 #[.val (.int p0), .val (.int p1), .val (.int (if (own_v p0) = (own_e p0) then (1 : Int32) else (0 : Int32))), .val (.int ((own_b (((p1.toUInt32 >>> ((3 : Int32) &&& 31).toUInt32).toInt32) &&& (3 : Int32))) + ((p1 &&& (7 : Int32)) - (4 : Int32)))), .val (.int (if (own_v ((own_b (((p1.toUInt32 >>> ((3 : Int32) &&& 31).toUInt32).toInt32) &&& (3 : Int32))) + ((p1 &&& (7 : Int32)) - (4 : Int32)))) = (own_e ((own_b (((p1.toUInt32 >>> ((3 : Int32) &&& 31).toUInt32).toInt32) &&& (3 : Int32))) + ((p1 &&& (7 : Int32)) - (4 : Int32)))) then (1 : Int32) else (0 : Int32)))] [])) _
        refine XS.iconst X6.here hx rfl (hb hby at_60) ?_
        show Steps p.tables e below (T6.setTop (mkF m 61 #[.val (.int p0), .val (.int p1), .val (.int (if (own_v p0) = (own_e p0) then (1 : Int32) else (0 : Int32))), .val (.int ((own_b (((p1.toUInt32 >>> ((3 : Int32) &&& 31).toUInt32).toInt32) &&& (3 : Int32))) + ((p1 &&& (7 : Int32)) - (4 : Int32)))), .val (.int (if (own_v ((own_b (((p1.toUInt32 >>> ((3 : Int32) &&& 31).toUInt32).toInt32) &&& (3 : Int32))) + ((p1 &&& (7 : Int32)) - (4 : Int32)))) = (own_e ((own_b (((p1.toUInt32 >>> ((3 : Int32) &&& 31).toUInt32).toInt32) &&& (3 : Int32))) + ((p1 &&& (7 : Int32)) - (4 : Int32)))) then (1 : Int32) else (0 : Int32)))] [(.int (1 : Int32))])) _
        refine XS.goto X6.here hx rfl (pc0 := 61) (pc' := 65) rfl (hb hby at_61) (by decide) (by decide) ?_
        rw [hw0] at kt
        exact kt
  obtain ⟨fs, hr, hrun, hended, hW, hsame⟩ := X6.leave (v := some (.int (nar .boolean (if (if (own_v p0) = (own_e p0) then (1 : Int32) else (0 : Int32)) = (0 : Int32) then (0 : Int32) else (if (if (own_v ((own_b (((p1.toUInt32 >>> ((3 : Int32) &&& 31).toUInt32).toInt32) &&& (3 : Int32))) + ((p1 &&& (7 : Int32)) - (4 : Int32)))) = (own_e ((own_b (((p1.toUInt32 >>> ((3 : Int32) &&& 31).toUInt32).toInt32) &&& (3 : Int32))) + ((p1 &&& (7 : Int32)) - (4 : Int32)))) then (1 : Int32) else (0 : Int32)) = (0 : Int32) then (0 : Int32) else (1 : Int32)))))) (fun h => by rw [Bd.returns] at h; cases h)
  refine ⟨_, _, ?_, hrun, hended, _, _, rfl, ?_, ⟨_, rfl⟩, hW, hsame.mono (by decide) (by decide)⟩
  · show Steps p.tables e below (s₁.setTop (mkF m 0 #[.val (.int p0), .val (.int p1), .unset, .unset, .unset] [])) _
    refine XS.iloadN X0.here hx rfl (hb hby at_0) rfl ?_
    show Steps p.tables e below (s₁.setTop (mkF m 1 #[.val (.int p0), .val (.int p1), .unset, .unset, .unset] [(.int p0)])) _
    refine st1 _ ?_
    show Steps p.tables e below (T1.setTop (mkF m 4 #[.val (.int p0), .val (.int p1), .unset, .unset, .unset] [(.int (own_v p0))])) _
    refine XS.iloadN X1.here hx rfl (hb hby at_4) rfl ?_
    show Steps p.tables e below (T1.setTop (mkF m 5 #[.val (.int p0), .val (.int p1), .unset, .unset, .unset] [(.int p0), (.int (own_v p0))])) _
    refine st2 _ ?_
    show Steps p.tables e below (T2.setTop (mkF m 8 #[.val (.int p0), .val (.int p1), .unset, .unset, .unset] [(.int (own_e p0)), (.int (own_v p0))])) _
    refine J8_3 _ rfl _ ?_
    show Steps p.tables e below (T2.setTop (mkF m 16 #[.val (.int p0), .val (.int p1), .unset, .unset, .unset] [(.int (if (own_v p0) = (own_e p0) then (1 : Int32) else (0 : Int32)))])) _
    refine XS.istoreN X2.here hx rfl (hb hby at_16) rfl (l' := #[.val (.int p0), .val (.int p1), .val (.int (if (own_v p0) = (own_e p0) then (1 : Int32) else (0 : Int32))), .unset, .unset]) rfl ?_
    show Steps p.tables e below (T2.setTop (mkF m 17 #[.val (.int p0), .val (.int p1), .val (.int (if (own_v p0) = (own_e p0) then (1 : Int32) else (0 : Int32))), .unset, .unset] [])) _
    refine XS.iloadN X2.here hx rfl (hb hby at_17) rfl ?_
    show Steps p.tables e below (T2.setTop (mkF m 18 #[.val (.int p0), .val (.int p1), .val (.int (if (own_v p0) = (own_e p0) then (1 : Int32) else (0 : Int32))), .unset, .unset] [(.int p1)])) _
    refine XS.iconst X2.here hx rfl (hb hby at_18) ?_
    show Steps p.tables e below (T2.setTop (mkF m 19 #[.val (.int p0), .val (.int p1), .val (.int (if (own_v p0) = (own_e p0) then (1 : Int32) else (0 : Int32))), .unset, .unset] [(.int (3 : Int32)), (.int p1)])) _
    refine XS.iushr X2.here hx rfl (hb hby at_19) rfl ?_
    show Steps p.tables e below (T2.setTop (mkF m 20 #[.val (.int p0), .val (.int p1), .val (.int (if (own_v p0) = (own_e p0) then (1 : Int32) else (0 : Int32))), .unset, .unset] [(.int ((p1.toUInt32 >>> ((3 : Int32) &&& 31).toUInt32).toInt32))])) _
    refine XS.iconst X2.here hx rfl (hb hby at_20) ?_
    show Steps p.tables e below (T2.setTop (mkF m 21 #[.val (.int p0), .val (.int p1), .val (.int (if (own_v p0) = (own_e p0) then (1 : Int32) else (0 : Int32))), .unset, .unset] [(.int (3 : Int32)), (.int ((p1.toUInt32 >>> ((3 : Int32) &&& 31).toUInt32).toInt32))])) _
    refine XS.iand X2.here hx rfl (hb hby at_21) rfl ?_
    show Steps p.tables e below (T2.setTop (mkF m 22 #[.val (.int p0), .val (.int p1), .val (.int (if (own_v p0) = (own_e p0) then (1 : Int32) else (0 : Int32))), .unset, .unset] [(.int (((p1.toUInt32 >>> ((3 : Int32) &&& 31).toUInt32).toInt32) &&& (3 : Int32)))])) _
    refine st4 _ ?_
    show Steps p.tables e below (T4.setTop (mkF m 25 #[.val (.int p0), .val (.int p1), .val (.int (if (own_v p0) = (own_e p0) then (1 : Int32) else (0 : Int32))), .unset, .unset] [(.int (own_b (((p1.toUInt32 >>> ((3 : Int32) &&& 31).toUInt32).toInt32) &&& (3 : Int32))))])) _
    refine XS.iloadN X4.here hx rfl (hb hby at_25) rfl ?_
    show Steps p.tables e below (T4.setTop (mkF m 26 #[.val (.int p0), .val (.int p1), .val (.int (if (own_v p0) = (own_e p0) then (1 : Int32) else (0 : Int32))), .unset, .unset] [(.int p1), (.int (own_b (((p1.toUInt32 >>> ((3 : Int32) &&& 31).toUInt32).toInt32) &&& (3 : Int32))))])) _
    refine XS.bipush X4.here hx rfl (hb hby at_26) ?_
    show Steps p.tables e below (T4.setTop (mkF m 28 #[.val (.int p0), .val (.int p1), .val (.int (if (own_v p0) = (own_e p0) then (1 : Int32) else (0 : Int32))), .unset, .unset] [(.int (7 : Int32)), (.int p1), (.int (own_b (((p1.toUInt32 >>> ((3 : Int32) &&& 31).toUInt32).toInt32) &&& (3 : Int32))))])) _
    refine XS.iand X4.here hx rfl (hb hby at_28) rfl ?_
    show Steps p.tables e below (T4.setTop (mkF m 29 #[.val (.int p0), .val (.int p1), .val (.int (if (own_v p0) = (own_e p0) then (1 : Int32) else (0 : Int32))), .unset, .unset] [(.int (p1 &&& (7 : Int32))), (.int (own_b (((p1.toUInt32 >>> ((3 : Int32) &&& 31).toUInt32).toInt32) &&& (3 : Int32))))])) _
    refine XS.iconst X4.here hx rfl (hb hby at_29) ?_
    show Steps p.tables e below (T4.setTop (mkF m 30 #[.val (.int p0), .val (.int p1), .val (.int (if (own_v p0) = (own_e p0) then (1 : Int32) else (0 : Int32))), .unset, .unset] [(.int (4 : Int32)), (.int (p1 &&& (7 : Int32))), (.int (own_b (((p1.toUInt32 >>> ((3 : Int32) &&& 31).toUInt32).toInt32) &&& (3 : Int32))))])) _
    refine XS.isub X4.here hx rfl (hb hby at_30) rfl ?_
    show Steps p.tables e below (T4.setTop (mkF m 31 #[.val (.int p0), .val (.int p1), .val (.int (if (own_v p0) = (own_e p0) then (1 : Int32) else (0 : Int32))), .unset, .unset] [(.int ((p1 &&& (7 : Int32)) - (4 : Int32))), (.int (own_b (((p1.toUInt32 >>> ((3 : Int32) &&& 31).toUInt32).toInt32) &&& (3 : Int32))))])) _
    refine XS.iadd X4.here hx rfl (hb hby at_31) rfl ?_
    show Steps p.tables e below (T4.setTop (mkF m 32 #[.val (.int p0), .val (.int p1), .val (.int (if (own_v p0) = (own_e p0) then (1 : Int32) else (0 : Int32))), .unset, .unset] [(.int ((own_b (((p1.toUInt32 >>> ((3 : Int32) &&& 31).toUInt32).toInt32) &&& (3 : Int32))) + ((p1 &&& (7 : Int32)) - (4 : Int32))))])) _
    refine XS.istoreN X4.here hx rfl (hb hby at_32) rfl (l' := #[.val (.int p0), .val (.int p1), .val (.int (if (own_v p0) = (own_e p0) then (1 : Int32) else (0 : Int32))), .val (.int ((own_b (((p1.toUInt32 >>> ((3 : Int32) &&& 31).toUInt32).toInt32) &&& (3 : Int32))) + ((p1 &&& (7 : Int32)) - (4 : Int32)))), .unset]) rfl ?_
    show Steps p.tables e below (T4.setTop (mkF m 33 #[.val (.int p0), .val (.int p1), .val (.int (if (own_v p0) = (own_e p0) then (1 : Int32) else (0 : Int32))), .val (.int ((own_b (((p1.toUInt32 >>> ((3 : Int32) &&& 31).toUInt32).toInt32) &&& (3 : Int32))) + ((p1 &&& (7 : Int32)) - (4 : Int32)))), .unset] [])) _
    refine XS.iloadN X4.here hx rfl (hb hby at_33) rfl ?_
    refine st5 _ ?_
    refine XS.iloadN X5.here hx rfl (hb hby at_37) rfl ?_
    show Steps p.tables e below (T5.setTop (mkF m 38 #[.val (.int p0), .val (.int p1), .val (.int (if (own_v p0) = (own_e p0) then (1 : Int32) else (0 : Int32))), .val (.int ((own_b (((p1.toUInt32 >>> ((3 : Int32) &&& 31).toUInt32).toInt32) &&& (3 : Int32))) + ((p1 &&& (7 : Int32)) - (4 : Int32)))), .unset] [(.int ((own_b (((p1.toUInt32 >>> ((3 : Int32) &&& 31).toUInt32).toInt32) &&& (3 : Int32))) + ((p1 &&& (7 : Int32)) - (4 : Int32)))), (.int (own_v ((own_b (((p1.toUInt32 >>> ((3 : Int32) &&& 31).toUInt32).toInt32) &&& (3 : Int32))) + ((p1 &&& (7 : Int32)) - (4 : Int32)))))])) _
    refine st6 _ ?_
    show Steps p.tables e below (T6.setTop (mkF m 41 #[.val (.int p0), .val (.int p1), .val (.int (if (own_v p0) = (own_e p0) then (1 : Int32) else (0 : Int32))), .val (.int ((own_b (((p1.toUInt32 >>> ((3 : Int32) &&& 31).toUInt32).toInt32) &&& (3 : Int32))) + ((p1 &&& (7 : Int32)) - (4 : Int32)))), .unset] [(.int (own_e ((own_b (((p1.toUInt32 >>> ((3 : Int32) &&& 31).toUInt32).toInt32) &&& (3 : Int32))) + ((p1 &&& (7 : Int32)) - (4 : Int32))))), (.int (own_v ((own_b (((p1.toUInt32 >>> ((3 : Int32) &&& 31).toUInt32).toInt32) &&& (3 : Int32))) + ((p1 &&& (7 : Int32)) - (4 : Int32)))))])) _
    refine J41_7 _ rfl _ ?_
    refine XS.istore X6.here hx rfl (hb hby at_49) rfl (l' := #[.val (.int p0), .val (.int p1), .val (.int (if (own_v p0) = (own_e p0) then (1 : Int32) else (0 : Int32))), .val (.int ((own_b (((p1.toUInt32 >>> ((3 : Int32) &&& 31).toUInt32).toInt32) &&& (3 : Int32))) + ((p1 &&& (7 : Int32)) - (4 : Int32)))), .val (.int (if (own_v ((own_b (((p1.toUInt32 >>> ((3 : Int32) &&& 31).toUInt32).toInt32) &&& (3 : Int32))) + ((p1 &&& (7 : Int32)) - (4 : Int32)))) = (own_e ((own_b (((p1.toUInt32 >>> ((3 : Int32) &&& 31).toUInt32).toInt32) &&& (3 : Int32))) + ((p1 &&& (7 : Int32)) - (4 : Int32)))) then (1 : Int32) else (0 : Int32)))]) rfl ?_
    show Steps p.tables e below (T6.setTop (mkF m 51 #[.val (.int p0), .val (.int p1), .val (.int (if (own_v p0) = (own_e p0) then (1 : Int32) else (0 : Int32))), .val (.int ((own_b (((p1.toUInt32 >>> ((3 : Int32) &&& 31).toUInt32).toInt32) &&& (3 : Int32))) + ((p1 &&& (7 : Int32)) - (4 : Int32)))), .val (.int (if (own_v ((own_b (((p1.toUInt32 >>> ((3 : Int32) &&& 31).toUInt32).toInt32) &&& (3 : Int32))) + ((p1 &&& (7 : Int32)) - (4 : Int32)))) = (own_e ((own_b (((p1.toUInt32 >>> ((3 : Int32) &&& 31).toUInt32).toInt32) &&& (3 : Int32))) + ((p1 &&& (7 : Int32)) - (4 : Int32)))) then (1 : Int32) else (0 : Int32)))] [])) _
    refine XS.iloadN X6.here hx rfl (hb hby at_51) rfl ?_
    show Steps p.tables e below (T6.setTop (mkF m 52 #[.val (.int p0), .val (.int p1), .val (.int (if (own_v p0) = (own_e p0) then (1 : Int32) else (0 : Int32))), .val (.int ((own_b (((p1.toUInt32 >>> ((3 : Int32) &&& 31).toUInt32).toInt32) &&& (3 : Int32))) + ((p1 &&& (7 : Int32)) - (4 : Int32)))), .val (.int (if (own_v ((own_b (((p1.toUInt32 >>> ((3 : Int32) &&& 31).toUInt32).toInt32) &&& (3 : Int32))) + ((p1 &&& (7 : Int32)) - (4 : Int32)))) = (own_e ((own_b (((p1.toUInt32 >>> ((3 : Int32) &&& 31).toUInt32).toInt32) &&& (3 : Int32))) + ((p1 &&& (7 : Int32)) - (4 : Int32)))) then (1 : Int32) else (0 : Int32)))] [(.int (if (own_v p0) = (own_e p0) then (1 : Int32) else (0 : Int32)))])) _
    refine J52_8 _ rfl _ ?_
    show Steps p.tables e below (T6.setTop (mkF m 65 #[.val (.int p0), .val (.int p1), .val (.int (if (own_v p0) = (own_e p0) then (1 : Int32) else (0 : Int32))), .val (.int ((own_b (((p1.toUInt32 >>> ((3 : Int32) &&& 31).toUInt32).toInt32) &&& (3 : Int32))) + ((p1 &&& (7 : Int32)) - (4 : Int32)))), .val (.int (if (own_v ((own_b (((p1.toUInt32 >>> ((3 : Int32) &&& 31).toUInt32).toInt32) &&& (3 : Int32))) + ((p1 &&& (7 : Int32)) - (4 : Int32)))) = (own_e ((own_b (((p1.toUInt32 >>> ((3 : Int32) &&& 31).toUInt32).toInt32) &&& (3 : Int32))) + ((p1 &&& (7 : Int32)) - (4 : Int32)))) then (1 : Int32) else (0 : Int32)))] [(.int (if (if (own_v p0) = (own_e p0) then (1 : Int32) else (0 : Int32)) = (0 : Int32) then (0 : Int32) else (if (if (own_v ((own_b (((p1.toUInt32 >>> ((3 : Int32) &&& 31).toUInt32).toInt32) &&& (3 : Int32))) + ((p1 &&& (7 : Int32)) - (4 : Int32)))) = (own_e ((own_b (((p1.toUInt32 >>> ((3 : Int32) &&& 31).toUInt32).toInt32) &&& (3 : Int32))) + ((p1 &&& (7 : Int32)) - (4 : Int32)))) then (1 : Int32) else (0 : Int32)) = (0 : Int32) then (0 : Int32) else (1 : Int32))))])) _
    exact retN X6 hx (t := .boolean) Bd.returns (by simp) (hb hby at_65) hr
  · show Q0 Z p0 p1  h0 n0 _ T6.heap _
    rw [e6]
    exact ⟨by simp [own_ve, nar], N6⟩
set_option maxRecDepth 65536 in
set_option maxHeartbeats 40000000 in
theorem comes_1 {Post : Tables → Env → Array Value → State → Outcome → State → Prop} (hpost : ∀ tb e args s v u, (limb_1_1.after args s (.returned v) u = true ∧ limb_1_2.after args s (.returned v) u = true ∧ True) → FrameEnd s (.returned v) u (Jvm.fieldLocs frame_1_writes args s ++ Jvm.arrayLocs frame_1_arrays args s ++ Jvm.staticLocs frame_1_statics s) 0 0 → Post tb e args s (.returned v) u) :
    ArmFor flags0 classFile x code maxLocals ret World_1 tables_1 room_1 Calls_1 rest_1 Pre_1 Post := by
  intro l hfl _ _ p e ha hc hk s m args below hf hA hF happ hP
  obtain ⟨hcalls, hrest, hpre⟩ := hP
  obtain ⟨-, -, -, hnamed, -, -, -, hat⟩ := (Spec.applies_iff hf).mp happ
  obtain ⟨hg, hn⟩ := and_e (Cond.before_iff.mp (show (Jvm.Cond.and given_1 narrow_1).before args s = true from hpre))
  obtain ⟨g1, g2⟩ := and_e hg
  obtain ⟨g3, g4⟩ := and_e g2
  obtain ⟨w0, w1, rfl⟩ : ∃ w0 w1 : Value, args = #[w0, w1] := by
    have hs : args.size = 2 := by simpa [Cond.value, given_1] using g1
    obtain ⟨L⟩ := args
    match L, hs with
    | [w0, w1], _ => exact ⟨w0, w1, rfl⟩
  have hw := fun d (hd : d ∈ tables_1) => atoms_spec (ws := Jvm.Cond.code x code maxLocals ret :: tables_1) hat d (List.mem_cons_of_mem _ hd)
  have hfit : Fit s := fun {y c} hc i hi => by
    obtain ⟨ha, rfl⟩ := Array.getElem?_eq_some_iff.mp hc
    have q := List.all_eq_true.mp ((Array.all_eq_true_iff_forall_mem.mp hF) _ (Array.getElem_mem ha)) i (List.mem_range.mpr hi)
    simpa [Array.getElem?_eq_getElem hi] using q
  obtain ⟨i0, ei0⟩ := is_v g3
  obtain rfl : w0 = (.int i0) := Option.some.inj ei0
  obtain ⟨i1, ei1⟩ := is_v g4
  obtain rfl : w1 = (.int i1) := Option.some.inj ei1
  obtain ⟨n, o, h1, h2, h3, _, L, rfl, ⟨rfl, N⟩, hq⟩ := rm0 l s _ hw tables_1 i0 i1  s.heap s.heap.size (Nat.le_refl _)  p e ha hc hk s m _ below hf ((Spec.applies_iff_loose hf).mp happ).1 ⟨rfl, State.Warmed39.refl s, rfl⟩ trivial
  refine ⟨n, _, h1, h2, h3, hpost _ _ _ _ _ _ ⟨Cond.after_iff.mpr rfl, Cond.after_iff.mpr (eq_i res_at (Term.int_eval (1)) rfl), trivial⟩ ⟨hq.1, hq.2.1, (hq.2.2.sift fun y hy => Or.inr (N y hy)).mono (by decide) (by decide)⟩⟩
theorem main_1_1 : Claimed_1_1 := comes_1 fun _ _ _ _ _ _ h hF => ⟨h.1, hF⟩
theorem main_1_2 : Claimed_1_2 := comes_1 fun _ _ _ _ _ _ h hF => ⟨h.2.1, hF⟩
end Jvm.Pilot.@@N@@
namespace Jvm.Pilot.@@N@@
open Jvm Jvm.ClassFile Sem Op Lib Jvm.Free Jvm.Stand Jvm.Pilot.@@N@@.Jvm.D
/-! MADE BY PROGRAM (witnessworld.py) out of the Statement's table words and the real class files: 11 classes; the members and pool entries that the words name. The judged class is class 1, her method 3. -/
namespace start1
open Jvm.ClassFile
def u (s : String) : CpInfo := .utf8 (stringToUtf16 s)
/-- a pool by its gaps: so many unusable entries, then the entry; so many at the end -/
def gap : Nat → List CpInfo → List CpInfo
  | 0, r => r
  | n + 1, r => .unusable :: gap n r
def poolList (es : List (Nat × CpInfo)) (last : Nat) : List CpInfo := es.foldr (fun e r => gap e.1 (e.2 :: r)) (gap last [])
def pool (es : List (Nat × CpInfo)) (last : Nat) : Array CpInfo := ⟨poolList es last⟩
def fileOf (pool : Array CpInfo) (this : Nat) (attrs : Array Attribute := #[]) (ms : Array MethodInfo := #[]) (fl : Nat := 33) (sup : Nat := 0) (ifs : Array Nat := #[]) (fds : Array FieldInfo := #[]) : ClassFile where
  minorVersion := 0
  majorVersion := 65
  constantPool := pool
  accessFlags := fl
  thisClass := this
  superClass := sup
  interfaces := ifs
  fields := fds
  methods := ms
  attributes := attrs
def plain (name : String) (sup : Option ClassId) : Class where
  name := name
  kind := .ordinary
  loader := none
  accessFlags := 33
  super := sup
  interfaces := #[]
  cf := none
  fields := #[]
  methods := #[]
  instanceTypes := #[]
  staticTypes := #[]
  resolved := #[]
  callSites := []
  init := .initialized
  statics := none
  mirror := none

def pool0 : Array CpInfo := pool [(5, u "<init>"), (0, u "()V"), (1, .class_ 10), (1, u "java/lang/Object")] 113

def k0m0 : Method := { name := "<init>", desc := "()V", sig := { parameters := [], returnType := none }, accessFlags := 1, code := none }
/-- java/lang/Object -/
def k0 : Class := { plain "java/lang/Object" none with
  accessFlags := 33
  interfaces := #[]
  cf := some (fileOf pool0 8 #[] #[{ accessFlags := 1, nameIndex := 5, descriptorIndex := 6, attributes := #[] }] 33 0 #[] #[])
  fields := #[]
  methods := #[k0m0]
  instanceTypes := #[]
  staticTypes := #[]
  resolved := Array.replicate 124 none
  statics := none }

def pool1 : Array CpInfo := pool [(1, .class_ 2), (0, u "com/example/brokerwire/brokerwire/Store"), (1, .class_ 6), (1, u "java/lang/Object"), (0, u "<init>"), (0, u "()V"), (0, .long 4294967295), (1, .long 1000), (3, .integer 2147483648), (0, .methodref 1 17), (0, .nameAndType 18 19), (0, u "isValidPartitionCount"), (0, u "(I)Z"), (0, .methodref 21 22), (0, .class_ 23), (0, .nameAndType 24 19), (0, u "com/example/brokerwire/brokerwire/StoreIsValidPartitionCountPinLaw"), (0, u "expected"), (0, .methodref 21 26), (0, .nameAndType 27 28), (0, u "boundary"), (0, u "(I)I"), (3, u "law"), (0, u "(II)Z")] 2

def k1m0 : Method := { name := "<init>", desc := "()V", sig := { parameters := [], returnType := none }, accessFlags := 2, code := none }
def k1c1 : Code := { maxStack := 4, maxLocals := 3, code := method_2_code, exceptionTable := #[], attributes := #[] }
def k1m1 : Method := { name := "expected", desc := "(I)Z", sig := { parameters := [.int], returnType := some .boolean }, accessFlags := 10, code := some k1c1 }
def k1c2 : Code := { maxStack := 2, maxLocals := 1, code := method_3_code, exceptionTable := #[], attributes := #[] }
def k1m2 : Method := { name := "boundary", desc := "(I)I", sig := { parameters := [.int], returnType := some .int }, accessFlags := 10, code := some k1c2 }
def k1c3 : Code := { maxStack := 3, maxLocals := 5, code := code, exceptionTable := #[], attributes := #[] }
def k1m3 : Method := { name := "law", desc := "(II)Z", sig := { parameters := [.int, .int], returnType := some .boolean }, accessFlags := 9, code := some k1c3 }
/-- com/example/brokerwire/brokerwire/StoreIsValidPartitionCountPinLaw -/
def k1 : Class := { plain "com/example/brokerwire/brokerwire/StoreIsValidPartitionCountPinLaw" (some 0) with
  accessFlags := 49
  interfaces := #[]
  cf := some (fileOf pool1 21 #[] #[{ accessFlags := 2, nameIndex := 7, descriptorIndex := 8, attributes := #[] }, { accessFlags := 10, nameIndex := 24, descriptorIndex := 19, attributes := #[] }, { accessFlags := 10, nameIndex := 27, descriptorIndex := 28, attributes := #[] }, { accessFlags := 9, nameIndex := 32, descriptorIndex := 33, attributes := #[] }] 49 4 #[] #[])
  fields := #[]
  methods := #[k1m0, k1m1, k1m2, k1m3]
  instanceTypes := #[]
  staticTypes := #[]
  resolved := Array.replicate 36 none
  statics := none }

def pool2 : Array CpInfo := pool [(1, .class_ 2), (0, u "java/lang/AutoCloseable"), (0, .class_ 4), (0, u "java/lang/Object")] 7

/-- java/lang/AutoCloseable -/
def k2 : Class := { plain "java/lang/AutoCloseable" (some 0) with
  accessFlags := 1537
  interfaces := #[]
  cf := some (fileOf pool2 1 #[] #[] 1537 3 #[] #[])
  fields := #[]
  methods := #[]
  instanceTypes := #[]
  staticTypes := #[]
  resolved := Array.replicate 12 none
  statics := none }

def pool3 : Array CpInfo := pool [(1, .class_ 2), (0, u "java/io/Closeable"), (0, .class_ 4), (0, u "java/lang/Object"), (0, .class_ 6), (0, u "java/lang/AutoCloseable")] 7

/-- java/io/Closeable -/
def k3 : Class := { plain "java/io/Closeable" (some 0) with
  accessFlags := 1537
  interfaces := #[2]
  cf := some (fileOf pool3 1 #[] #[] 1537 3 #[5] #[])
  fields := #[]
  methods := #[]
  instanceTypes := #[]
  staticTypes := #[]
  resolved := Array.replicate 14 none
  statics := none }

def pool4 : Array CpInfo := pool [(2, .class_ 4), (1, u "java/lang/Object"), (6, .class_ 13), (1, u "com/example/brokerwire/brokerwire/Store"), (0, u "topics"), (0, u "Ljava/util/TreeMap;"), (5, u "logs"), (0, u "Ljava/util/Map;"), (5, u "creating"), (0, u "Ljava/util/Set;"), (5, u "awaitingSync"), (0, u "Lcom/example/brokerwire/brokerwire/PartitionLog$AwaitingSync;"), (2, u "appendSignal"), (0, u "Ljava/lang/Object;"), (5, u "appendListeners"), (0, u "Ljava/util/List;"), (2, u "topicsDir"), (0, u "Ljava/nio/file/Path;"), (2, u "lockChannel"), (0, u "Ljava/nio/channels/FileChannel;"), (2, u "positions"), (0, u "Lcom/example/brokerwire/brokerwire/Positions;"), (2, u "topicPositions"), (2, u "segmentBytes"), (0, u "J"), (2, u "maxPartitions"), (0, u "I"), (2, u "report"), (0, u "Ljava/util/function/Consumer;"), (95, u "TOPIC_NAME"), (0, u "Ljava/util/regex/Pattern;"), (16, .class_ 189), (0, u "com/example/brokerwire/brokerwire/Store$Topic"), (63, u "isValidPartitionCount"), (0, u "(I)Z"), (12, .class_ 269), (1, u "com/example/brokerwire/brokerwire/Store$Creation"), (19, u "appendCount"), (8, u "waitsReleased"), (0, u "Z"), (19, u "closed"), (46, u "partitionsHeld"), (155, .class_ 523), (0, u "java/io/Closeable"), (0, u "LOCK"), (0, u "Ljava/lang/String;"), (1, u "TOPICS"), (0, u "DESCRIPTION"), (0, u "PARTITIONS"), (0, u "MAX_PARTITIONS")] 78

def k4c0 : Code := { maxStack := 2, maxLocals := 1, code := prog_86_method_4_code, exceptionTable := #[], attributes := #[] }
def k4m0 : Method := { name := "isValidPartitionCount", desc := "(I)Z", sig := { parameters := [.int], returnType := some .boolean }, accessFlags := 8, code := some k4c0 }
/-- com/example/brokerwire/brokerwire/Store -/
def k4 : Class := { plain "com/example/brokerwire/brokerwire/Store" (some 0) with
  accessFlags := 48
  interfaces := #[3]
  cf := some (fileOf pool4 11 #[.nestMembers #[267, 188]] #[{ accessFlags := 8, nameIndex := 253, descriptorIndex := 254, attributes := #[] }] 48 2 #[522] #[{ accessFlags := 26, nameIndex := 524, descriptorIndex := 525, attributes := #[] }, { accessFlags := 26, nameIndex := 527, descriptorIndex := 525, attributes := #[] }, { accessFlags := 26, nameIndex := 528, descriptorIndex := 525, attributes := #[] }, { accessFlags := 26, nameIndex := 529, descriptorIndex := 525, attributes := #[] }, { accessFlags := 26, nameIndex := 170, descriptorIndex := 171, attributes := #[] }, { accessFlags := 24, nameIndex := 530, descriptorIndex := 70, attributes := #[] }, { accessFlags := 18, nameIndex := 50, descriptorIndex := 51, attributes := #[] }, { accessFlags := 18, nameIndex := 54, descriptorIndex := 55, attributes := #[] }, { accessFlags := 18, nameIndex := 58, descriptorIndex := 59, attributes := #[] }, { accessFlags := 18, nameIndex := 62, descriptorIndex := 59, attributes := #[] }, { accessFlags := 18, nameIndex := 65, descriptorIndex := 66, attributes := #[] }, { accessFlags := 18, nameIndex := 73, descriptorIndex := 74, attributes := #[] }, { accessFlags := 18, nameIndex := 69, descriptorIndex := 70, attributes := #[] }, { accessFlags := 18, nameIndex := 14, descriptorIndex := 15, attributes := #[] }, { accessFlags := 18, nameIndex := 21, descriptorIndex := 22, attributes := #[] }, { accessFlags := 18, nameIndex := 28, descriptorIndex := 29, attributes := #[] }, { accessFlags := 2, nameIndex := 366, descriptorIndex := 66, attributes := #[] }, { accessFlags := 2, nameIndex := 319, descriptorIndex := 299, attributes := #[] }, { accessFlags := 18, nameIndex := 35, descriptorIndex := 36, attributes := #[] }, { accessFlags := 18, nameIndex := 39, descriptorIndex := 40, attributes := #[] }, { accessFlags := 2, nameIndex := 289, descriptorIndex := 66, attributes := #[] }, { accessFlags := 2, nameIndex := 298, descriptorIndex := 299, attributes := #[] }, { accessFlags := 18, nameIndex := 46, descriptorIndex := 47, attributes := #[] }])
  fields := #[{ name := "LOCK", type := (.object "java/lang/String"), accessFlags := 26, slot := 0, constantValue := 0 }, { name := "TOPICS", type := (.object "java/lang/String"), accessFlags := 26, slot := 1, constantValue := 0 }, { name := "DESCRIPTION", type := (.object "java/lang/String"), accessFlags := 26, slot := 2, constantValue := 0 }, { name := "PARTITIONS", type := (.object "java/lang/String"), accessFlags := 26, slot := 3, constantValue := 0 }, { name := "TOPIC_NAME", type := (.object "java/util/regex/Pattern"), accessFlags := 26, slot := 4, constantValue := 0 }, { name := "MAX_PARTITIONS", type := .int, accessFlags := 24, slot := 5, constantValue := 0 }, { name := "topicsDir", type := (.object "java/nio/file/Path"), accessFlags := 18, slot := 0, constantValue := 0 }, { name := "lockChannel", type := (.object "java/nio/channels/FileChannel"), accessFlags := 18, slot := 1, constantValue := 0 }, { name := "positions", type := (.object "com/example/brokerwire/brokerwire/Positions"), accessFlags := 18, slot := 2, constantValue := 0 }, { name := "topicPositions", type := (.object "com/example/brokerwire/brokerwire/Positions"), accessFlags := 18, slot := 3, constantValue := 0 }, { name := "segmentBytes", type := .long, accessFlags := 18, slot := 4, constantValue := 0 }, { name := "report", type := (.object "java/util/function/Consumer"), accessFlags := 18, slot := 5, constantValue := 0 }, { name := "maxPartitions", type := .int, accessFlags := 18, slot := 6, constantValue := 0 }, { name := "topics", type := (.object "java/util/TreeMap"), accessFlags := 18, slot := 7, constantValue := 0 }, { name := "logs", type := (.object "java/util/Map"), accessFlags := 18, slot := 8, constantValue := 0 }, { name := "creating", type := (.object "java/util/Set"), accessFlags := 18, slot := 9, constantValue := 0 }, { name := "partitionsHeld", type := .long, accessFlags := 2, slot := 10, constantValue := 0 }, { name := "closed", type := .boolean, accessFlags := 2, slot := 11, constantValue := 0 }, { name := "awaitingSync", type := (.object "com/example/brokerwire/brokerwire/PartitionLog$AwaitingSync"), accessFlags := 18, slot := 12, constantValue := 0 }, { name := "appendSignal", type := (.object "java/lang/Object"), accessFlags := 18, slot := 13, constantValue := 0 }, { name := "appendCount", type := .long, accessFlags := 2, slot := 14, constantValue := 0 }, { name := "waitsReleased", type := .boolean, accessFlags := 2, slot := 15, constantValue := 0 }, { name := "appendListeners", type := (.object "java/util/List"), accessFlags := 18, slot := 16, constantValue := 0 }]
  methods := #[k4m0]
  instanceTypes := #[(.object "java/nio/file/Path"), (.object "java/nio/channels/FileChannel"), (.object "com/example/brokerwire/brokerwire/Positions"), (.object "com/example/brokerwire/brokerwire/Positions"), .long, (.object "java/util/function/Consumer"), .int, (.object "java/util/TreeMap"), (.object "java/util/Map"), (.object "java/util/Set"), .long, .boolean, (.object "com/example/brokerwire/brokerwire/PartitionLog$AwaitingSync"), (.object "java/lang/Object"), .long, .boolean, (.object "java/util/List")]
  staticTypes := #[(.object "java/lang/String"), (.object "java/lang/String"), (.object "java/lang/String"), (.object "java/lang/String"), (.object "java/util/regex/Pattern"), .int]
  resolved := Array.replicate 609 none
  statics := none }

def pool5 : Array CpInfo := pool [(1, u "java/lang/Cloneable"), (0, .class_ 1), (0, u "java/lang/Object"), (0, .class_ 3)] 3

/-- java/lang/Cloneable -/
def k5 : Class := { plain "java/lang/Cloneable" (some 0) with
  accessFlags := 1537
  interfaces := #[]
  cf := some (fileOf pool5 2 #[] #[] 1537 4 #[] #[])
  fields := #[]
  methods := #[]
  instanceTypes := #[]
  staticTypes := #[]
  resolved := Array.replicate 8 none
  statics := none }

def pool6 : Array CpInfo := pool [(1, u "java/io/Serializable"), (0, .class_ 1), (0, u "java/lang/Object"), (0, .class_ 3)] 3

/-- java/io/Serializable -/
def k6 : Class := { plain "java/io/Serializable" (some 0) with
  accessFlags := 1537
  interfaces := #[]
  cf := some (fileOf pool6 2 #[] #[] 1537 4 #[] #[])
  fields := #[]
  methods := #[]
  instanceTypes := #[]
  staticTypes := #[]
  resolved := Array.replicate 8 none
  statics := none }

/-- the primitive byte -/
def k7 : Class := { plain "byte" none with kind := .primitive 'B', accessFlags := 0x411 }
/-- [B -/
def k8 : Class := { plain "[B" (some 0) with kind := .array 7 .byte, interfaces := #[5, 6], accessFlags := 1041 }

/-- the primitive int -/
def k9 : Class := { plain "int" none with kind := .primitive 'I', accessFlags := 0x411 }
/-- [I -/
def k10 : Class := { plain "[I" (some 0) with kind := .array 9 .int, interfaces := #[5, 6], accessFlags := 1041 }

def heap : Heap := #[]
def classes : Array Class := #[k0, k1, k2, k3, k4, k5, k6, k7, k8, k9, k10]
def interned : List (Array UInt16 × Addr) := []
def slotsUsed : Nat := 0
def theMethod : MethodId := ⟨1, 3⟩
def args0 : Array Value := #[.int 5, .int 7]
def aboutOver (below : List Frame) : State where
  vm := { classes := classes, interned := interned.toArray }
  heap := heap
  slotsUsed := slotsUsed
  threads := #[{ frames := .invoking theMethod args0 :: below }]
def below0 : List Frame := [.native { method := ⟨0, 0⟩, args := #[] }]
def about1 : State := aboutOver below0
def p0 : Program := .bare "" "" ""
def e0 : Env := launch0.env 0 0 0
theorem w_frames : about1.frames = Frame.invoking theMethod args0 :: below0 := rfl
set_option maxRecDepth 65536 in
theorem w_args : argsFit about1.vm theMethod args0 = true := by decide +kernel
set_option maxRecDepth 65536 in
theorem w_heap : heapFits about1 = true := by decide +kernel
set_option maxRecDepth 65536 in
theorem w_runnable : about1.curStatus? = some .runnable := by decide +kernel
set_option maxRecDepth 65536 in
theorem w_alone : about1.alone = true := by decide +kernel
set_option maxRecDepth 65536 in
theorem w_named : about1.methodNamed? x = some theMethod := by decide +kernel
set_option maxRecDepth 65536 in
theorem w_hears : about1.hears theMethod below0 = true := by decide +kernel
set_option maxRecDepth 65536 in
theorem w_ripe : about1.ripe theMethod args0 below0 = true := by decide +kernel
theorem w_running : about1.status = .running := rfl
set_option maxRecDepth 65536 in
theorem w_room : about1.hasRoom e0.platform room_1 = true :=
  launch0.hasRoom_least _ room_1 (by decide +kernel) (by decide +kernel) (by decide +kernel) (by decide +kernel) (by decide +kernel) (by decide +kernel)
theorem allAtoms_all (ts : List Jvm.Cond) (a : Array Jvm.Value) (st : Jvm.State) : (allAtoms ts).before a st = ts.all (fun c => c.before a st) := by
  induction ts with
  | nil => rfl
  | cons c t ih =>
    show (Jvm.Cond.and c (allAtoms t)).before a st = _
    rw [Jvm.Cond.before_and, ih, List.all_cons]
def words1 : List Jvm.Cond := Jvm.Cond.code x code maxLocals ret :: tables_1
/-- a 'code' word, met by the world's own term for the bytes: nothing is compared byte by byte -/
theorem code_word {y : MethodName} {bytes : ByteArray} {mx : Nat} {rt : Option FieldType} {a : Array Value} {s : State} {m : MethodId} {meth : Method} {c : Code} (h1 : s.methodNamed? y = some m) (h2 : s.vm.method? m = some meth) (h3 : meth.code = some c) (h4 : c.code = bytes)
    (h5 : (c.maxLocals == mx && c.exceptionTable.isEmpty && decide (c.maxStack ≤ mostOperands) && decide (meth.sig.returnType = rt) && !meth.locks && decide (parseMethodDescriptor y.desc = some meth.sig)) = true) : (Jvm.Cond.code y bytes mx rt).before a s = true := by
  simp only [Bool.and_eq_true, beq_iff_eq, Bool.not_eq_true', decide_eq_true_eq] at h5
  obtain ⟨⟨⟨⟨⟨g1, g2⟩, g3⟩, g4⟩, g5⟩, g6⟩ := h5
  simp [Cond.before, Cond.holds, Cond.value, h1, h2, h3, h4, g1, g2, g3, g4, g5, g6]
def isCode : Jvm.Cond → Bool
  | .code _ _ _ _ => true
  | _ => false
theorem all_split {L : List Jvm.Cond} {P : Jvm.Cond → Bool} (h1 : L.all (fun c => isCode c || P c) = true) (h2 : ∀ c ∈ L.filter isCode, P c = true) : L.all P = true := by
  refine List.all_eq_true.mpr fun c hc => ?_
  have h := List.all_eq_true.mp h1 c hc
  rcases Bool.eq_false_or_eq_true (isCode c) with hi | hi
  · exact h2 c (List.mem_filter.mpr ⟨hc, hi⟩)
  · simpa [hi] using h
set_option maxRecDepth 65536 in
theorem w_c0 : (Jvm.Cond.code x code maxLocals ret).before args0 about1 = true := code_word (m := ⟨1, 3⟩) (meth := k1m3) (c := k1c3) (by decide +kernel) rfl rfl rfl (by decide +kernel)
set_option maxRecDepth 65536 in
theorem w_c1 : (Jvm.Cond.code ({ cls := "com/example/brokerwire/brokerwire/Store", name := "isValidPartitionCount", desc := "(I)Z" } : Jvm.MethodName) prog_86_method_4_code (1 : Nat) (Option.some Jvm.ClassFile.FieldType.boolean)).before args0 about1 = true := code_word (m := ⟨4, 0⟩) (meth := k4m0) (c := k4c0) (by decide +kernel) rfl rfl rfl (by decide +kernel)
set_option maxRecDepth 65536 in
theorem w_c2 : (Jvm.Cond.code ({ cls := "com/example/brokerwire/brokerwire/StoreIsValidPartitionCountPinLaw", name := "expected", desc := "(I)Z" } : Jvm.MethodName) method_2_code (3 : Nat) (Option.some Jvm.ClassFile.FieldType.boolean)).before args0 about1 = true := code_word (m := ⟨1, 1⟩) (meth := k1m1) (c := k1c1) (by decide +kernel) rfl rfl rfl (by decide +kernel)
set_option maxRecDepth 65536 in
theorem w_c3 : (Jvm.Cond.code ({ cls := "com/example/brokerwire/brokerwire/StoreIsValidPartitionCountPinLaw", name := "boundary", desc := "(I)I" } : Jvm.MethodName) method_3_code (1 : Nat) (Option.some Jvm.ClassFile.FieldType.int)).before args0 about1 = true := code_word (m := ⟨1, 2⟩) (meth := k1m2) (c := k1c2) (by decide +kernel) rfl rfl rfl (by decide +kernel)
def codes1 : List Jvm.Cond := [Jvm.Cond.code x code maxLocals ret, Jvm.Cond.code ({ cls := "com/example/brokerwire/brokerwire/Store", name := "isValidPartitionCount", desc := "(I)Z" } : Jvm.MethodName) prog_86_method_4_code (1 : Nat) (Option.some Jvm.ClassFile.FieldType.boolean), Jvm.Cond.code ({ cls := "com/example/brokerwire/brokerwire/StoreIsValidPartitionCountPinLaw", name := "expected", desc := "(I)Z" } : Jvm.MethodName) method_2_code (3 : Nat) (Option.some Jvm.ClassFile.FieldType.boolean), Jvm.Cond.code ({ cls := "com/example/brokerwire/brokerwire/StoreIsValidPartitionCountPinLaw", name := "boundary", desc := "(I)I" } : Jvm.MethodName) method_3_code (1 : Nat) (Option.some Jvm.ClassFile.FieldType.int)]
set_option maxRecDepth 65536 in
theorem codes_eq : words1.filter isCode = codes1 := rfl
theorem w_codes : ∀ c ∈ words1.filter isCode, c.before args0 about1 = true := by
  rw [codes_eq]
  intro c hc
  simp only [codes1, List.mem_cons, List.not_mem_nil, or_false] at hc
  rcases hc with rfl | rfl | rfl | rfl
  · exact w_c0
  · exact w_c1
  · exact w_c2
  · exact w_c3
set_option maxRecDepth 65536 in
theorem w_t1 : words1.all (fun c => isCode c || c.before args0 about1) = true := by decide +kernel
theorem w_tables : (allAtoms (Jvm.Cond.code x code maxLocals ret :: tables_1)).before args0 about1 = true := by
  rw [allAtoms_all]
  show words1.all (fun c => c.before args0 about1) = true
  refine all_split ?_ w_codes
  rw [w_t1]
set_option maxRecDepth 65536 in
theorem w_case : (Jvm.Cond.and given_1 narrow_1).before args0 about1 = true := by decide +kernel
theorem w_applies : (headSpec (Jvm.Cond.code x code maxLocals ret :: tables_1) room_1).applies x e0.platform about1 = true :=
  (Spec.applies_iff w_frames).mpr ⟨w_running, w_runnable, w_alone, w_named, w_hears, w_ripe, w_room, w_tables⟩
theorem atStart : AtStart classFile x code maxLocals ret World_1 tables_1 room_1 Calls_1 rest_1 Pre_1 launch0 p0 e0 about1 theMethod args0 below0 :=
  ⟨lists_1, trivial, launch0.admits_env _ _ _, launch0.least_env, fairChoices_fair.cas, fairChoices_fair.clock, w_frames, w_args, w_heap, w_applies, trivial, trivial, w_case⟩
end start1
theorem witness_1 : WitnessClaimed_1 := ⟨start1.p0, start1.e0, start1.about1, start1.theMethod, start1.args0, start1.below0, start1.atStart⟩
end Jvm.Pilot.@@N@@
