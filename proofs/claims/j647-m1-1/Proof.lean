import JvmDerived
import JvmDerived.Pilot.@@N@@Statement
import JvmDerived.Pilot.@@N@@Code
set_option linter.unusedVariables false
set_option linter.unusedSimpArgs false
namespace Jvm.RoadKit
open Sem ClassFile Op Lib Jvm.Stand Jvm.Free Jvm.LawKit
section New
variable {p : Program} {l : Launch} {e : Env} {R : Room} {s : State} {m : MethodId} {args : Array Value} {below : List Frame} {meth : Method} {c : Code} {T : State} {locs : List Loc} {cells slots : Nat}
theorem retI (X : Stand p l e R s m args below meth c T locs cells slots) (hx : p.tables.exec = Jvm.exec) {pc : Nat} {Ls : Array Slot} {z : Int32} {rest : List Value} (hret : meth.sig.returnType = some .int) (hd : decode c.code pc = .ok (.ireturn, 1)) {fs : List Frame}
    (hl : ∀ (f : JFrame) (acts : List Action), f.method = m → f.locked = none → f.entered = [] → (doReturn e (T.setTop f) acts (some (.int z))).1 = T.setFrames fs) : Steps p.tables e below (T.setTop (mkF m pc Ls (.int z :: rest))) (T.setFrames fs) := by
  have hm' : T.vm.method? m = some meth := X.method'
  have hn : narrow .int (.int z) = .int z := rfl
  show Steps p.tables e below (T.setTop { method := m, pc := pc, locals := Ls, stack := _ :: rest, locked := none }) _
  jvm_step X.here [X.here.top, hx, hd, hm', hret, hn]
  first | (intro acts; rw [hl _ acts rfl rfl rfl]) | rw [hl _ _ rfl rfl rfl]
  exact Steps.refl _
theorem lremM {g : JFrame} {target : State} (X : Stand p l e R s m args below meth c T locs cells slots) (hx : p.tables.exec = Jvm.exec) (hg : g.method = m) {x y : Int64} {rest : List Value} (hd : decode c.code g.pc = .ok (.lrem, 1)) (hs : g.stack = .long y :: .long x :: rest) (hy : y ≠ 0)
    (hr : Steps p.tables e below (T.setTop { g with pc := g.pc + 1, stack := .long (x % y) :: rest }) target) : Steps p.tables e below (T.setTop g) target := by
  have q : x - x / y * y = x % y := lrem_mod x y
  exact XS.lrem X.here hx hg hd hs hy (by rw [q]; exact hr)
/-- from the state t the invocation ends as Q says -/
def Done (p : Program) (e : Env) (below : List Frame) (Q : Outcome → State → Prop) (t : State) : Prop := ∃ s₂ o, Steps p.tables e below t s₂ ∧ s₂.status = .running ∧ Ended s₂ below o ∧ Q o s₂
theorem Done.of {p : Program} {e : Env} {below : List Frame} {Q : Outcome → State → Prop} {t t' : State} (h : Done p e below Q t') (k : ∀ target, Steps p.tables e below t' target → Steps p.tables e below t target) : Done p e below Q t := by
  obtain ⟨s₂, o, h1, h2⟩ := h
  exact ⟨s₂, o, k _ h1, h2⟩
end New
end Jvm.RoadKit
namespace Jvm.Pilot.@@N@@
open Jvm Jvm.ClassFile Sem Op Lib Jvm.Free Jvm.Stand Jvm.LawKit Jvm.RoadKit Bundle Jvm.Pilot.@@N@@.Jvm.D

def own_in (x : Int64) (b : Int) : Prop := 0 ≤ x.toInt ∧ x.toInt ≤ b
theorem own_k0 : (0 : Int64).toInt = 0 := by decide
theorem own_mk (x : Int64) : own_in (x &&& (2305843009213693951 : Int64)) 2305843009213693951 := by
  have h := c_maskL x (2305843009213693951 : Int64) 61 (by decide) (by decide)
  unfold own_in
  omega
theorem own_mk0 (x : Int64) (c : Prop) [Decidable c] : own_in (if c then (x &&& (2305843009213693951 : Int64)) else (0 : Int64)) 2305843009213693951 := by
  split
  · exact own_mk x
  · exact ⟨by decide, by decide⟩
theorem own_sm (x : Int32) : own_in ((x &&& (255 : Int32)).toInt64) 255 := by
  have h := c_mask x (255 : Int32) 8 (by decide) (by decide)
  have h2 := c_i2l (x &&& (255 : Int32))
  unfold own_in
  omega
theorem own_sm0 (x : Int32) (c : Prop) [Decidable c] : own_in (if c then ((x &&& (255 : Int32)).toInt64) else (0 : Int64)) 255 := by
  split
  · exact own_sm x
  · exact ⟨by decide, by decide⟩
theorem own_up {x : Int64} (h : own_in x 255) : own_in x 2305843009213693951 := ⟨h.1, by have := h.2; omega⟩
theorem own_ge {x : Int64} {b : Int} (h : own_in x b) : ¬ (x < (0 : Int64)) := by rw [Int64.lt_iff_toInt_lt, own_k0]; have := h.1; omega
theorem own_add {x y : Int64} {a b : Int} (h : own_in x a) (k : own_in y b) (q : a + b < 9223372036854775808) : own_in (x + y) (a + b) ∧ (x + y).toInt = x.toInt + y.toInt := by
  have h1 := c_ladd x y
  have h2 := rng64 (x + y)
  unfold own_in at *
  refine ⟨⟨?_, ?_⟩, ?_⟩ <;> omega
theorem own_ov {x y : Int64} {a b : Int} (h : own_in x a) (k : own_in y b) (q : a + b < 9223372036854775808) : ¬ ((x ^^^ (x + y)) &&& (y ^^^ (x + y))) < (0 : Int64) := by
  have h1 := (own_add h k q).1
  have h2 := (c_xorSL x (x + y)).2.2.2 h.1 h1.1
  have h3 := (c_andSL (x ^^^ (x + y)) (y ^^^ (x + y))).2.1 h2
  rw [Int64.lt_iff_toInt_lt, own_k0]
  omega
theorem own_bal (m e r : Int64) : ((e + r) - (m + e)) = (r - m) := by
  apply Int64.toInt_inj.mp
  have h1 := c_ladd e r
  have h2 := c_ladd m e
  have h3 := c_lsub (e + r) (m + e)
  have h4 := c_lsub r m
  have r1 := rng64 ((e + r) - (m + e))
  have r2 := rng64 (r - m)
  omega
theorem own_bal2 (m e r n f t : Int64) : (((e + r) + (f + t)) - ((m + e) + (n + f))) = ((r + t) - (m + n)) := by
  apply Int64.toInt_inj.mp
  have h1 := c_ladd e r
  have h2 := c_ladd m e
  have h3 := c_ladd f t
  have h4 := c_ladd n f
  have h5 := c_ladd (e + r) (f + t)
  have h6 := c_ladd (m + e) (n + f)
  have h7 := c_lsub ((e + r) + (f + t)) ((m + e) + (n + f))
  have h8 := c_ladd r t
  have h9 := c_ladd m n
  have h10 := c_lsub (r + t) (m + n)
  have r1 := rng64 (((e + r) + (f + t)) - ((m + e) + (n + f)))
  have r2 := rng64 ((r + t) - (m + n))
  omega
theorem own_plus {m r e n t f : Int64} (hm : own_in m 2305843009213693951) (hr : own_in r 2305843009213693951) (he : own_in e 2305843009213693951) (hn : own_in n 255) (ht : own_in t 255) (hf : own_in f 255) :
    (¬ (((m + e) ^^^ ((m + e) + (n + f))) &&& ((n + f) ^^^ ((m + e) + (n + f)))) < (0 : Int64)) ∧ (¬ (((e + r) ^^^ ((e + r) + (f + t))) &&& ((f + t) ^^^ ((e + r) + (f + t)))) < (0 : Int64)) ∧ (¬ ((m ^^^ (m + n)) &&& (n ^^^ (m + n))) < (0 : Int64)) ∧ (¬ ((r ^^^ (r + t)) &&& (t ^^^ (r + t))) < (0 : Int64)) ∧
    (¬ (((m + e) + (n + f)) < (0 : Int64))) ∧ (¬ (((e + r) + (f + t)) < (0 : Int64))) ∧ (¬ ((m + n) < (0 : Int64))) ∧ (¬ ((r + t) < (0 : Int64))) ∧ (((e + r) + (f + t)) - ((m + e) + (n + f))) = ((r + t) - (m + n)) := by
  have x1 := (own_add hm he (by decide)).1
  have x2 := (own_add hn hf (by decide)).1
  have x3 := (own_add he hr (by decide)).1
  have x4 := (own_add hf ht (by decide)).1
  exact ⟨own_ov x1 x2 (by decide), own_ov x3 x4 (by decide), own_ov hm hn (by decide), own_ov hr ht (by decide), own_ge (own_add x1 x2 (by decide)).1, own_ge (own_add x3 x4 (by decide)).1, own_ge (own_add hm hn (by decide)).1, own_ge (own_add hr ht (by decide)).1, own_bal2 m e r n f t⟩
theorem own_z {x y : Int64} {a b : Int} (h : own_in x a) (k : own_in y b) (q : a + b < 9223372036854775808) : (x + y) = (0 : Int64) ↔ (x = (0 : Int64) ∧ y = (0 : Int64)) := by
  have h1 := (own_add h k q).2
  unfold own_in at *
  rw [← Int64.toInt_inj, ← Int64.toInt_inj, ← Int64.toInt_inj, own_k0, h1]
  omega
theorem d2_0 : decode jdk_30_method_1_code 0 = .ok (.aload_n 0, 1) := by decide +kernel
theorem d2_1 : decode jdk_30_method_1_code 1 = .ok (.invokespecial 1, 3) := by decide +kernel
theorem d2_4 : decode jdk_30_method_1_code 4 = .ok (.return_, 1) := by decide +kernel
theorem pn_2 : plainName "java/lang/Record" = true := by first | (simp [plainName, overriddenIn]; done) | decide +kernel
theorem ef_2 (m : MethodId) (u0 : Addr)  : entryFrame m #[(.ref u0)] 1 = mkF m 0 #[.val (.ref u0)] [] := by first | (simp [entryFrame, mkF, argsToLocals, Value.category]; done) | rfl
def Q2 (Z : State) (u0 : Addr) (h0 : Heap) (n0 : Nat) (v : Option Value) (h : Heap) (L : List Loc) : Prop := v = none ∧ Fr n0 L ∧ h = h0
set_option maxRecDepth 65536 in
set_option maxHeartbeats 40000000 in
theorem rm2 (l : Launch) (Z : State) (a0 : Array Value) (hw : ∀ d ∈ tables_1, d.before a0 Z = true) (ws : List Jvm.Cond) (u0 : Addr) (h0 : Heap) (n0 : Nat) (Z0 : n0 ≤ h0.size) :
    MetFree l (⟨"java/lang/Record", "<init>", "()V"⟩ : MethodName) (head1 (Jvm.Cond.code (⟨"java/lang/Record", "<init>", "()V"⟩ : MethodName) jdk_30_method_1_code 1 none :: ws) ({ frames := 1, cells := 0, slots := 0, locals := 12 } : Room)) (fun a U => a = #[(.ref u0)] ∧ Z.Warmed39 U.vm ∧ U.heap = h0) (fun _ _ _ _ _ => True) (fun _ U o U' => ∃ v L, o = .returned v ∧ Q2 Z u0 h0 n0 v U'.heap L ∧ FrameEnd U o U' L ({ frames := 1, cells := 0, slots := 0, locals := 12 } : Room).cells ({ frames := 1, cells := 0, slots := 0, locals := 12 } : Room).slots) := by
  refine MetFree.of_bodySF (plainFor_of_name pn_2) hisR ?_
  intro p e s m args below meth c s₁ Bd hml0 hP hK
  obtain ⟨rfl, hZ, hh⟩ := hP
  have hx := Bd.exec
  have hby := Bd.bytes
  have hml : c.maxLocals = 1 := hml0
  have hown : s.vm.findClass "java/lang/Record" = some m.cls := findClass_of_methodNamed Bd.named
  have hnm := (name_of_methodNamed Bd.named Bd.method).1
  have X0 : Stand p l e ({ frames := 1, cells := 0, slots := 0, locals := 12 } : Room) s m #[(.ref u0)] below meth c s₁ [] 0 0 := Stand.of_body Bd
  have e0 : s₁.heap = h0 := by rw [← hh, Bd.state]; rfl
  have N0 := Fr.nil n0
  have pre0 : ∀ t, Steps p.tables e below (s₁.setTop (mkF m 0 #[.val (.ref u0)] [])) t → Steps p.tables e below (s₁.setTop (entryFrame m #[(.ref u0)] 1)) t := fun t k => castTop (ef_2 m u0) k
  show Done p e below _ _
  refine Done.of ?_ pre0
  obtain ⟨T1, X1, e1, st1⟩ := initO X0 hx hZ hown (hw _ (List.mem_of_getElem? (i := 12) rfl)) (hw _ (List.mem_of_getElem? (i := 13) rfl)) (hw _ (List.mem_of_getElem? (i := 14) rfl)) e0 (g := (mkF m 1 #[.val (.ref u0)] [(.ref u0)])) rfl (by rw [hml]; rfl) rfl (hb hby d2_1) (by decide) (W := 0) (by show 2 * 0 + _ ≤ _; exact Nat.le_of_eq rfl) (by decide)
  obtain ⟨fs, hr, hrun, hended, hW, hsame⟩ := X1.leave (v := none) (fun _ => rfl)
  refine ⟨_, _, ?_, hrun, hended, _, _, rfl, ?_, ⟨_, rfl⟩, hW, hsame.mono (by decide) (by decide)⟩
  · show Steps p.tables e below (s₁.setTop (mkF m 0 #[.val (.ref u0)] [])) _
    refine XS.aloadN X0.here hx rfl (hb hby d2_0) rfl rfl ?_
    show Steps p.tables e below (s₁.setTop (mkF m 1 #[.val (.ref u0)] [(.ref u0)])) _
    refine st1 _ ?_
    show Steps p.tables e below (T1.setTop (mkF m 4 #[.val (.ref u0)] [])) _
    exact X1.returnOut hx Bd.returns (hb hby d2_4) hr
  · show Q2 Z u0  h0 n0 _ T1.heap _
    rw [e1]
    refine ⟨?_, N0, rfl⟩
    rfl
theorem d1_0 : decode prog_22_method_1_code 0 = .ok (.aload_n 0, 1) := by decide +kernel
theorem d1_1 : decode prog_22_method_1_code 1 = .ok (.invokespecial 1, 3) := by decide +kernel
theorem d1_4 : decode prog_22_method_1_code 4 = .ok (.lload_n 1, 1) := by decide +kernel
theorem d1_5 : decode prog_22_method_1_code 5 = .ok (.lconst 0, 1) := by decide +kernel
theorem d1_6 : decode prog_22_method_1_code 6 = .ok (.lcmp, 1) := by decide +kernel
theorem d1_7 : decode prog_22_method_1_code 7 = .ok (.ifCond .lt 23, 3) := by decide +kernel
theorem d1_10 : decode prog_22_method_1_code 10 = .ok (.lload_n 3, 1) := by decide +kernel
theorem d1_11 : decode prog_22_method_1_code 11 = .ok (.lconst 0, 1) := by decide +kernel
theorem d1_12 : decode prog_22_method_1_code 12 = .ok (.lcmp, 1) := by decide +kernel
theorem d1_13 : decode prog_22_method_1_code 13 = .ok (.ifCond .lt 17, 3) := by decide +kernel
theorem d1_16 : decode prog_22_method_1_code 16 = .ok (.lload 5, 2) := by decide +kernel
theorem d1_18 : decode prog_22_method_1_code 18 = .ok (.lconst 0, 1) := by decide +kernel
theorem d1_19 : decode prog_22_method_1_code 19 = .ok (.lcmp, 1) := by decide +kernel
theorem d1_20 : decode prog_22_method_1_code 20 = .ok (.ifCond .lt 10, 3) := by decide +kernel
theorem d1_23 : decode prog_22_method_1_code 23 = .ok (.lload 7, 2) := by decide +kernel
theorem d1_25 : decode prog_22_method_1_code 25 = .ok (.lconst 0, 1) := by decide +kernel
theorem d1_26 : decode prog_22_method_1_code 26 = .ok (.lcmp, 1) := by decide +kernel
theorem d1_27 : decode prog_22_method_1_code 27 = .ok (.ifCond .ge 25, 3) := by decide +kernel
theorem d1_52 : decode prog_22_method_1_code 52 = .ok (.lload_n 3, 1) := by decide +kernel
theorem d1_53 : decode prog_22_method_1_code 53 = .ok (.lload_n 1, 1) := by decide +kernel
theorem d1_54 : decode prog_22_method_1_code 54 = .ok (.lsub, 1) := by decide +kernel
theorem d1_55 : decode prog_22_method_1_code 55 = .ok (.lload 7, 2) := by decide +kernel
theorem d1_57 : decode prog_22_method_1_code 57 = .ok (.lload 5, 2) := by decide +kernel
theorem d1_59 : decode prog_22_method_1_code 59 = .ok (.lsub, 1) := by decide +kernel
theorem d1_60 : decode prog_22_method_1_code 60 = .ok (.lcmp, 1) := by decide +kernel
theorem d1_61 : decode prog_22_method_1_code 61 = .ok (.ifCond .eq 25, 3) := by decide +kernel
theorem d1_86 : decode prog_22_method_1_code 86 = .ok (.aload_n 0, 1) := by decide +kernel
theorem d1_87 : decode prog_22_method_1_code 87 = .ok (.lload_n 1, 1) := by decide +kernel
theorem d1_88 : decode prog_22_method_1_code 88 = .ok (.putfield 23, 3) := by decide +kernel
theorem d1_91 : decode prog_22_method_1_code 91 = .ok (.aload_n 0, 1) := by decide +kernel
theorem d1_92 : decode prog_22_method_1_code 92 = .ok (.lload_n 3, 1) := by decide +kernel
theorem d1_93 : decode prog_22_method_1_code 93 = .ok (.putfield 27, 3) := by decide +kernel
theorem d1_96 : decode prog_22_method_1_code 96 = .ok (.aload_n 0, 1) := by decide +kernel
theorem d1_97 : decode prog_22_method_1_code 97 = .ok (.lload 5, 2) := by decide +kernel
theorem d1_99 : decode prog_22_method_1_code 99 = .ok (.putfield 30, 3) := by decide +kernel
theorem d1_102 : decode prog_22_method_1_code 102 = .ok (.aload_n 0, 1) := by decide +kernel
theorem d1_103 : decode prog_22_method_1_code 103 = .ok (.lload 7, 2) := by decide +kernel
theorem d1_105 : decode prog_22_method_1_code 105 = .ok (.putfield 33, 3) := by decide +kernel
theorem d1_108 : decode prog_22_method_1_code 108 = .ok (.return_, 1) := by decide +kernel
theorem pn_1 : plainName "com/example/ensyn/ensyn/replay/TokenCounts" = true := by first | (simp [plainName, overriddenIn]; done) | decide +kernel
theorem pd_0 : parseMethodDescriptor "()V" = some ⟨[], none⟩ := by decide +kernel
theorem ef_1 (m : MethodId) (u0 : Addr) (q1 : Int64) (q2 : Int64) (q3 : Int64) (q4 : Int64)  : entryFrame m #[(.ref u0), (.long q1), (.long q2), (.long q3), (.long q4)] 9 = mkF m 0 #[.val (.ref u0), .val (.long q1), .second, .val (.long q2), .second, .val (.long q3), .second, .val (.long q4), .second] [] := by first | (simp [entryFrame, mkF, argsToLocals, Value.category]; done) | rfl
def Q1 (Z : State) (u0 : Addr) (q1 : Int64) (q2 : Int64) (q3 : Int64) (q4 : Int64) (h0 : Heap) (n0 : Nat) (v : Option Value) (h : Heap) (L : List Loc) : Prop := v = none ∧ Fr n0 L ∧ Keep h0 h [u0] ∧ Exa Z h u0 "com/example/ensyn/ensyn/replay/TokenCounts" ∧ Fld Z h u0 "com/example/ensyn/ensyn/replay/TokenCounts" "consumed" "J" (.long q1) ∧ Fld Z h u0 "com/example/ensyn/ensyn/replay/TokenCounts" "produced" "J" (.long q2) ∧ Fld Z h u0 "com/example/ensyn/ensyn/replay/TokenCounts" "missing" "J" (.long q3) ∧ Fld Z h u0 "com/example/ensyn/ensyn/replay/TokenCounts" "remaining" "J" (.long q4)
set_option maxRecDepth 65536 in
set_option maxHeartbeats 40000000 in
theorem rm1 (l : Launch) (Z : State) (a0 : Array Value) (hw : ∀ d ∈ tables_1, d.before a0 Z = true) (ws : List Jvm.Cond) (u0 : Addr) (q1 : Int64) (q2 : Int64) (q3 : Int64) (q4 : Int64) (h0 : Heap) (n0 : Nat) (Z0 : n0 ≤ h0.size) (E0 : Exa Z h0 u0 "com/example/ensyn/ensyn/replay/TokenCounts") (g0 : n0 ≤ u0) (F_consumed : Fld Z h0 u0 "com/example/ensyn/ensyn/replay/TokenCounts" "consumed" "J" (.long (0 : Int64))) (F_produced : Fld Z h0 u0 "com/example/ensyn/ensyn/replay/TokenCounts" "produced" "J" (.long (0 : Int64))) (F_missing : Fld Z h0 u0 "com/example/ensyn/ensyn/replay/TokenCounts" "missing" "J" (.long (0 : Int64))) (F_remaining : Fld Z h0 u0 "com/example/ensyn/ensyn/replay/TokenCounts" "remaining" "J" (.long (0 : Int64))) (k1 : ¬ (q1 < (0 : Int64))) (k2 : ¬ (q2 < (0 : Int64))) (k3 : ¬ (q3 < (0 : Int64))) (k4 : ¬ (q4 < (0 : Int64))) (k5 : (q2 - q1) = (q4 - q3)) :
    MetFree l (⟨"com/example/ensyn/ensyn/replay/TokenCounts", "<init>", "(JJJJ)V"⟩ : MethodName) (head1 (Jvm.Cond.code (⟨"com/example/ensyn/ensyn/replay/TokenCounts", "<init>", "(JJJJ)V"⟩ : MethodName) prog_22_method_1_code 9 none :: ws) ({ frames := 2, cells := 0, slots := 0, locals := 24 } : Room)) (fun a U => a = #[(.ref u0), (.long q1), (.long q2), (.long q3), (.long q4)] ∧ Z.Warmed39 U.vm ∧ U.heap = h0) (fun _ _ _ _ _ => True) (fun _ U o U' => ∃ v L, o = .returned v ∧ Q1 Z u0 q1 q2 q3 q4 h0 n0 v U'.heap L ∧ FrameEnd U o U' L ({ frames := 2, cells := 0, slots := 0, locals := 24 } : Room).cells ({ frames := 2, cells := 0, slots := 0, locals := 24 } : Room).slots) := by
  refine MetFree.of_bodySF (plainFor_of_name pn_1) hisR ?_
  intro p e s m args below meth c s₁ Bd hml0 hP hK
  obtain ⟨rfl, hZ, hh⟩ := hP
  have hx := Bd.exec
  have hby := Bd.bytes
  have hml : c.maxLocals = 9 := hml0
  have hown : s.vm.findClass "com/example/ensyn/ensyn/replay/TokenCounts" = some m.cls := findClass_of_methodNamed Bd.named
  have hnm := (name_of_methodNamed Bd.named Bd.method).1
  have X0 : Stand p l e ({ frames := 2, cells := 0, slots := 0, locals := 24 } : Room) s m #[(.ref u0), (.long q1), (.long q2), (.long q3), (.long q4)] below meth c s₁ [] 0 0 := Stand.of_body Bd
  have e0 : s₁.heap = h0 := by rw [← hh, Bd.state]; rfl
  have N0 := Fr.nil n0
  have pre0 : ∀ t, Steps p.tables e below (s₁.setTop (mkF m 0 #[.val (.ref u0), .val (.long q1), .second, .val (.long q2), .second, .val (.long q3), .second, .val (.long q4), .second] [])) t → Steps p.tables e below (s₁.setTop (entryFrame m #[(.ref u0), (.long q1), (.long q2), (.long q3), (.long q4)] 9)) t := fun t k => castTop (ef_1 m u0 q1 q2 q3 q4) k
  show Done p e below _ _
  refine Done.of ?_ pre0
  obtain ⟨_, _, ⟨T1, L1, k1, n1⟩, -, X1, ⟨Lc1, hQ1, l1, y1, z1⟩, st1⟩ := X0.specialBack hx (y := (⟨"java/lang/Record", "<init>", "()V"⟩ : MethodName)) rfl hown (mvT hZ (hw _ (List.mem_of_getElem? (i := 7) rfl))) (mvT hZ (hw _ (List.mem_of_getElem? (i := 8) rfl))) (mvT hZ (hw _ (List.mem_of_getElem? (i := 11) rfl))) (by decide) (backOf (W := 0) (rm2 l Z a0 hw [] u0 h0 n0 Z0 ) hZ (hw _ (List.mem_of_getElem? (i := 11) rfl)) (hw _ (List.mem_of_getElem? (i := 10) rfl)) (by decide) (by decide)) (g := (mkF m 1 #[.val (.ref u0), .val (.long q1), .second, .val (.long q2), .second, .val (.long q3), .second, .val (.long q4), .second] [(.ref u0)])) rfl (by rw [hml]; rfl) (Steps.refl _) (a := u0) (argsL := []) (rest := []) (lenOf pd_0 rfl) rfl (by show 2 * 0 + _ ≤ _; exact Nat.le_of_eq rfl) (hb hby d1_1) (fun _ _ => ⟨rfl, e0, (by decide : 0 + 0 ≤ _), (by decide : 0 + 0 ≤ _)⟩)
  dsimp only [Pt.U, Pt.locs, Pt.cells, Pt.slots] at X1 l1 y1 z1 st1 hQ1
  subst l1 y1 z1
  obtain ⟨rfl, N1q, e1⟩ := hQ1
  have N1 := Fr.app N0 N1q
  have hd7_2 : ¬ (q1 < (0 : Int64)) := by exact k1
  have hd13_3 : ¬ (q2 < (0 : Int64)) := by exact k2
  have hd20_4 : ¬ (q3 < (0 : Int64)) := by exact k3
  have hd27_5 : ¬ (q4 < (0 : Int64)) := by exact k4
  have hd61_6 : (q2 - q1) = (q4 - q3) := by exact k5
  obtain ⟨T7, h7, X7, e7, W7, st7⟩ := putF X1 hx hZ hown (host := "") (Or.inl (hw _ (List.mem_of_getElem? (i := 15) rfl))) Via.refl e1 F_consumed E0 (Or.inr ⟨(hw _ (List.mem_of_getElem? (i := 16) rfl)), rfl, hnm⟩) (hw _ (List.mem_of_getElem? (i := 2) rfl)) (ty := .long) (by decide) rfl rfl (g := (mkF m 88 #[.val (.ref u0), .val (.long q1), .second, .val (.long q2), .second, .val (.long q3), .second, .val (.long q4), .second] [(.long q1), (.ref u0)])) rfl rfl (hb hby d1_88)
  have Fw7 := Fld.same W7 F_consumed
  have N7 := Fr.snoc X7 N1 g0
  have Z7 : n0 ≤ h7.size := Nat.le_trans Z0 (Nat.le_of_eq W7.size.symm)
  have Kp7 := (Keep.refl h0 [u0]).wr W7 (Or.inl (List.mem_of_getElem? (i := 0) rfl))
  obtain ⟨T8, h8, X8, e8, W8, st8⟩ := putF X7 hx hZ hown (host := "") (Or.inl (hw _ (List.mem_of_getElem? (i := 17) rfl))) Via.refl e7 (F_produced.other W7 (Or.inr (slot_ne (Or.inr (hw _ (List.mem_of_getElem? (i := 18) rfl))) (Or.inr (hw _ (List.mem_of_getElem? (i := 16) rfl))) (by decide) (t := .long) (t' := .long) (by decide) (by decide)))) (E0.wr W7) (Or.inr ⟨(hw _ (List.mem_of_getElem? (i := 18) rfl)), rfl, hnm⟩) (hw _ (List.mem_of_getElem? (i := 2) rfl)) (ty := .long) (by decide) rfl rfl (g := (mkF m 93 #[.val (.ref u0), .val (.long q1), .second, .val (.long q2), .second, .val (.long q3), .second, .val (.long q4), .second] [(.long q2), (.ref u0)])) rfl rfl (hb hby d1_93)
  have Fw8 := Fld.same W8 (F_produced.other W7 (Or.inr (slot_ne (Or.inr (hw _ (List.mem_of_getElem? (i := 18) rfl))) (Or.inr (hw _ (List.mem_of_getElem? (i := 16) rfl))) (by decide) (t := .long) (t' := .long) (by decide) (by decide))))
  have N8 := Fr.snoc X8 N7 g0
  have Z8 : n0 ≤ h8.size := Nat.le_trans Z7 (Nat.le_of_eq W8.size.symm)
  have Kp8 := Kp7.wr W8 (Or.inl (List.mem_of_getElem? (i := 0) rfl))
  obtain ⟨T9, h9, X9, e9, W9, st9⟩ := putF X8 hx hZ hown (host := "") (Or.inl (hw _ (List.mem_of_getElem? (i := 19) rfl))) Via.refl e8 ((F_missing.other W7 (Or.inr (slot_ne (Or.inr (hw _ (List.mem_of_getElem? (i := 20) rfl))) (Or.inr (hw _ (List.mem_of_getElem? (i := 16) rfl))) (by decide) (t := .long) (t' := .long) (by decide) (by decide)))).other W8 (Or.inr (slot_ne (Or.inr (hw _ (List.mem_of_getElem? (i := 20) rfl))) (Or.inr (hw _ (List.mem_of_getElem? (i := 18) rfl))) (by decide) (t := .long) (t' := .long) (by decide) (by decide)))) ((E0.wr W7).wr W8) (Or.inr ⟨(hw _ (List.mem_of_getElem? (i := 20) rfl)), rfl, hnm⟩) (hw _ (List.mem_of_getElem? (i := 2) rfl)) (ty := .long) (by decide) rfl rfl (g := (mkF m 99 #[.val (.ref u0), .val (.long q1), .second, .val (.long q2), .second, .val (.long q3), .second, .val (.long q4), .second] [(.long q3), (.ref u0)])) rfl rfl (hb hby d1_99)
  have Fw9 := Fld.same W9 ((F_missing.other W7 (Or.inr (slot_ne (Or.inr (hw _ (List.mem_of_getElem? (i := 20) rfl))) (Or.inr (hw _ (List.mem_of_getElem? (i := 16) rfl))) (by decide) (t := .long) (t' := .long) (by decide) (by decide)))).other W8 (Or.inr (slot_ne (Or.inr (hw _ (List.mem_of_getElem? (i := 20) rfl))) (Or.inr (hw _ (List.mem_of_getElem? (i := 18) rfl))) (by decide) (t := .long) (t' := .long) (by decide) (by decide))))
  have N9 := Fr.snoc X9 N8 g0
  have Z9 : n0 ≤ h9.size := Nat.le_trans Z8 (Nat.le_of_eq W9.size.symm)
  have Kp9 := Kp8.wr W9 (Or.inl (List.mem_of_getElem? (i := 0) rfl))
  obtain ⟨T10, h10, X10, e10, W10, st10⟩ := putF X9 hx hZ hown (host := "") (Or.inl (hw _ (List.mem_of_getElem? (i := 21) rfl))) Via.refl e9 (((F_remaining.other W7 (Or.inr (slot_ne (Or.inr (hw _ (List.mem_of_getElem? (i := 22) rfl))) (Or.inr (hw _ (List.mem_of_getElem? (i := 16) rfl))) (by decide) (t := .long) (t' := .long) (by decide) (by decide)))).other W8 (Or.inr (slot_ne (Or.inr (hw _ (List.mem_of_getElem? (i := 22) rfl))) (Or.inr (hw _ (List.mem_of_getElem? (i := 18) rfl))) (by decide) (t := .long) (t' := .long) (by decide) (by decide)))).other W9 (Or.inr (slot_ne (Or.inr (hw _ (List.mem_of_getElem? (i := 22) rfl))) (Or.inr (hw _ (List.mem_of_getElem? (i := 20) rfl))) (by decide) (t := .long) (t' := .long) (by decide) (by decide)))) (((E0.wr W7).wr W8).wr W9) (Or.inr ⟨(hw _ (List.mem_of_getElem? (i := 22) rfl)), rfl, hnm⟩) (hw _ (List.mem_of_getElem? (i := 2) rfl)) (ty := .long) (by decide) rfl rfl (g := (mkF m 105 #[.val (.ref u0), .val (.long q1), .second, .val (.long q2), .second, .val (.long q3), .second, .val (.long q4), .second] [(.long q4), (.ref u0)])) rfl rfl (hb hby d1_105)
  have Fw10 := Fld.same W10 (((F_remaining.other W7 (Or.inr (slot_ne (Or.inr (hw _ (List.mem_of_getElem? (i := 22) rfl))) (Or.inr (hw _ (List.mem_of_getElem? (i := 16) rfl))) (by decide) (t := .long) (t' := .long) (by decide) (by decide)))).other W8 (Or.inr (slot_ne (Or.inr (hw _ (List.mem_of_getElem? (i := 22) rfl))) (Or.inr (hw _ (List.mem_of_getElem? (i := 18) rfl))) (by decide) (t := .long) (t' := .long) (by decide) (by decide)))).other W9 (Or.inr (slot_ne (Or.inr (hw _ (List.mem_of_getElem? (i := 22) rfl))) (Or.inr (hw _ (List.mem_of_getElem? (i := 20) rfl))) (by decide) (t := .long) (t' := .long) (by decide) (by decide))))
  have N10 := Fr.snoc X10 N9 g0
  have Z10 : n0 ≤ h10.size := Nat.le_trans Z9 (Nat.le_of_eq W10.size.symm)
  have Kp10 := Kp9.wr W10 (Or.inl (List.mem_of_getElem? (i := 0) rfl))
  obtain ⟨fs, hr, hrun, hended, hW, hsame⟩ := X10.leave (v := none) (fun _ => rfl)
  refine ⟨_, _, ?_, hrun, hended, _, _, rfl, ?_, ⟨_, rfl⟩, hW, hsame.mono (by decide) (by decide)⟩
  · show Steps p.tables e below (s₁.setTop (mkF m 0 #[.val (.ref u0), .val (.long q1), .second, .val (.long q2), .second, .val (.long q3), .second, .val (.long q4), .second] [])) _
    refine XS.aloadN X0.here hx rfl (hb hby d1_0) rfl rfl ?_
    show Steps p.tables e below (s₁.setTop (mkF m 1 #[.val (.ref u0), .val (.long q1), .second, .val (.long q2), .second, .val (.long q3), .second, .val (.long q4), .second] [(.ref u0)])) _
    refine st1.trans ?_
    show Steps p.tables e below (T1.setTop (mkF m 4 #[.val (.ref u0), .val (.long q1), .second, .val (.long q2), .second, .val (.long q3), .second, .val (.long q4), .second] [])) _
    refine XS.lloadN X1.here hx rfl (hb hby d1_4) rfl ?_
    show Steps p.tables e below (T1.setTop (mkF m 5 #[.val (.ref u0), .val (.long q1), .second, .val (.long q2), .second, .val (.long q3), .second, .val (.long q4), .second] [(.long q1)])) _
    refine XS.lconst X1.here hx rfl (hb hby d1_5) ?_
    show Steps p.tables e below (T1.setTop (mkF m 6 #[.val (.ref u0), .val (.long q1), .second, .val (.long q2), .second, .val (.long q3), .second, .val (.long q4), .second] [(.long (0 : Int64)), (.long q1)])) _
    refine XS.lcmp X1.here hx rfl (hb hby d1_6) rfl ?_
    show Steps p.tables e below (T1.setTop (mkF m 7 #[.val (.ref u0), .val (.long q1), .second, .val (.long q2), .second, .val (.long q3), .second, .val (.long q4), .second] [(.int (lcmpW q1 (0 : Int64)))])) _
    refine XS.ifNo X1.here hx rfl (hb hby d1_7) rfl ((if0 _ _).trans (flt (fun q => hd7_2 ((lw_lt q1 (0 : Int64)).mp q))).1) ?_
    show Steps p.tables e below (T1.setTop (mkF m 10 #[.val (.ref u0), .val (.long q1), .second, .val (.long q2), .second, .val (.long q3), .second, .val (.long q4), .second] [])) _
    refine XS.lloadN X1.here hx rfl (hb hby d1_10) rfl ?_
    show Steps p.tables e below (T1.setTop (mkF m 11 #[.val (.ref u0), .val (.long q1), .second, .val (.long q2), .second, .val (.long q3), .second, .val (.long q4), .second] [(.long q2)])) _
    refine XS.lconst X1.here hx rfl (hb hby d1_11) ?_
    show Steps p.tables e below (T1.setTop (mkF m 12 #[.val (.ref u0), .val (.long q1), .second, .val (.long q2), .second, .val (.long q3), .second, .val (.long q4), .second] [(.long (0 : Int64)), (.long q2)])) _
    refine XS.lcmp X1.here hx rfl (hb hby d1_12) rfl ?_
    show Steps p.tables e below (T1.setTop (mkF m 13 #[.val (.ref u0), .val (.long q1), .second, .val (.long q2), .second, .val (.long q3), .second, .val (.long q4), .second] [(.int (lcmpW q2 (0 : Int64)))])) _
    refine XS.ifNo X1.here hx rfl (hb hby d1_13) rfl ((if0 _ _).trans (flt (fun q => hd13_3 ((lw_lt q2 (0 : Int64)).mp q))).1) ?_
    show Steps p.tables e below (T1.setTop (mkF m 16 #[.val (.ref u0), .val (.long q1), .second, .val (.long q2), .second, .val (.long q3), .second, .val (.long q4), .second] [])) _
    refine XS.lload X1.here hx rfl (hb hby d1_16) rfl ?_
    show Steps p.tables e below (T1.setTop (mkF m 18 #[.val (.ref u0), .val (.long q1), .second, .val (.long q2), .second, .val (.long q3), .second, .val (.long q4), .second] [(.long q3)])) _
    refine XS.lconst X1.here hx rfl (hb hby d1_18) ?_
    show Steps p.tables e below (T1.setTop (mkF m 19 #[.val (.ref u0), .val (.long q1), .second, .val (.long q2), .second, .val (.long q3), .second, .val (.long q4), .second] [(.long (0 : Int64)), (.long q3)])) _
    refine XS.lcmp X1.here hx rfl (hb hby d1_19) rfl ?_
    show Steps p.tables e below (T1.setTop (mkF m 20 #[.val (.ref u0), .val (.long q1), .second, .val (.long q2), .second, .val (.long q3), .second, .val (.long q4), .second] [(.int (lcmpW q3 (0 : Int64)))])) _
    refine XS.ifNo X1.here hx rfl (hb hby d1_20) rfl ((if0 _ _).trans (flt (fun q => hd20_4 ((lw_lt q3 (0 : Int64)).mp q))).1) ?_
    show Steps p.tables e below (T1.setTop (mkF m 23 #[.val (.ref u0), .val (.long q1), .second, .val (.long q2), .second, .val (.long q3), .second, .val (.long q4), .second] [])) _
    refine XS.lload X1.here hx rfl (hb hby d1_23) rfl ?_
    show Steps p.tables e below (T1.setTop (mkF m 25 #[.val (.ref u0), .val (.long q1), .second, .val (.long q2), .second, .val (.long q3), .second, .val (.long q4), .second] [(.long q4)])) _
    refine XS.lconst X1.here hx rfl (hb hby d1_25) ?_
    show Steps p.tables e below (T1.setTop (mkF m 26 #[.val (.ref u0), .val (.long q1), .second, .val (.long q2), .second, .val (.long q3), .second, .val (.long q4), .second] [(.long (0 : Int64)), (.long q4)])) _
    refine XS.lcmp X1.here hx rfl (hb hby d1_26) rfl ?_
    show Steps p.tables e below (T1.setTop (mkF m 27 #[.val (.ref u0), .val (.long q1), .second, .val (.long q2), .second, .val (.long q3), .second, .val (.long q4), .second] [(.int (lcmpW q4 (0 : Int64)))])) _
    refine XS.ifYes X1.here hx rfl (pc0 := 27) (pc' := 52) rfl (hb hby d1_27) rfl ((if0 _ _).trans (flt (fun q => hd27_5 ((lw_lt q4 (0 : Int64)).mp q))).2.1) (by decide) (by decide) ?_
    show Steps p.tables e below (T1.setTop (mkF m 52 #[.val (.ref u0), .val (.long q1), .second, .val (.long q2), .second, .val (.long q3), .second, .val (.long q4), .second] [])) _
    refine XS.lloadN X1.here hx rfl (hb hby d1_52) rfl ?_
    show Steps p.tables e below (T1.setTop (mkF m 53 #[.val (.ref u0), .val (.long q1), .second, .val (.long q2), .second, .val (.long q3), .second, .val (.long q4), .second] [(.long q2)])) _
    refine XS.lloadN X1.here hx rfl (hb hby d1_53) rfl ?_
    show Steps p.tables e below (T1.setTop (mkF m 54 #[.val (.ref u0), .val (.long q1), .second, .val (.long q2), .second, .val (.long q3), .second, .val (.long q4), .second] [(.long q1), (.long q2)])) _
    refine XS.lsub X1.here hx rfl (hb hby d1_54) rfl ?_
    show Steps p.tables e below (T1.setTop (mkF m 55 #[.val (.ref u0), .val (.long q1), .second, .val (.long q2), .second, .val (.long q3), .second, .val (.long q4), .second] [(.long (q2 - q1))])) _
    refine XS.lload X1.here hx rfl (hb hby d1_55) rfl ?_
    show Steps p.tables e below (T1.setTop (mkF m 57 #[.val (.ref u0), .val (.long q1), .second, .val (.long q2), .second, .val (.long q3), .second, .val (.long q4), .second] [(.long q4), (.long (q2 - q1))])) _
    refine XS.lload X1.here hx rfl (hb hby d1_57) rfl ?_
    show Steps p.tables e below (T1.setTop (mkF m 59 #[.val (.ref u0), .val (.long q1), .second, .val (.long q2), .second, .val (.long q3), .second, .val (.long q4), .second] [(.long q3), (.long q4), (.long (q2 - q1))])) _
    refine XS.lsub X1.here hx rfl (hb hby d1_59) rfl ?_
    show Steps p.tables e below (T1.setTop (mkF m 60 #[.val (.ref u0), .val (.long q1), .second, .val (.long q2), .second, .val (.long q3), .second, .val (.long q4), .second] [(.long (q4 - q3)), (.long (q2 - q1))])) _
    refine XS.lcmp X1.here hx rfl (hb hby d1_60) rfl ?_
    show Steps p.tables e below (T1.setTop (mkF m 61 #[.val (.ref u0), .val (.long q1), .second, .val (.long q2), .second, .val (.long q3), .second, .val (.long q4), .second] [(.int (lcmpW (q2 - q1) (q4 - q3)))])) _
    refine XS.ifYes X1.here hx rfl (pc0 := 61) (pc' := 86) rfl (hb hby d1_61) rfl ((if0 _ _).trans (teq ((lw_eq (q2 - q1) (q4 - q3)).mpr hd61_6)).1) (by decide) (by decide) ?_
    show Steps p.tables e below (T1.setTop (mkF m 86 #[.val (.ref u0), .val (.long q1), .second, .val (.long q2), .second, .val (.long q3), .second, .val (.long q4), .second] [])) _
    refine XS.aloadN X1.here hx rfl (hb hby d1_86) rfl rfl ?_
    show Steps p.tables e below (T1.setTop (mkF m 87 #[.val (.ref u0), .val (.long q1), .second, .val (.long q2), .second, .val (.long q3), .second, .val (.long q4), .second] [(.ref u0)])) _
    refine XS.lloadN X1.here hx rfl (hb hby d1_87) rfl ?_
    show Steps p.tables e below (T1.setTop (mkF m 88 #[.val (.ref u0), .val (.long q1), .second, .val (.long q2), .second, .val (.long q3), .second, .val (.long q4), .second] [(.long q1), (.ref u0)])) _
    refine st7 _ ?_
    show Steps p.tables e below (T7.setTop (mkF m 91 #[.val (.ref u0), .val (.long q1), .second, .val (.long q2), .second, .val (.long q3), .second, .val (.long q4), .second] [])) _
    refine XS.aloadN X7.here hx rfl (hb hby d1_91) rfl rfl ?_
    show Steps p.tables e below (T7.setTop (mkF m 92 #[.val (.ref u0), .val (.long q1), .second, .val (.long q2), .second, .val (.long q3), .second, .val (.long q4), .second] [(.ref u0)])) _
    refine XS.lloadN X7.here hx rfl (hb hby d1_92) rfl ?_
    show Steps p.tables e below (T7.setTop (mkF m 93 #[.val (.ref u0), .val (.long q1), .second, .val (.long q2), .second, .val (.long q3), .second, .val (.long q4), .second] [(.long q2), (.ref u0)])) _
    refine st8 _ ?_
    show Steps p.tables e below (T8.setTop (mkF m 96 #[.val (.ref u0), .val (.long q1), .second, .val (.long q2), .second, .val (.long q3), .second, .val (.long q4), .second] [])) _
    refine XS.aloadN X8.here hx rfl (hb hby d1_96) rfl rfl ?_
    show Steps p.tables e below (T8.setTop (mkF m 97 #[.val (.ref u0), .val (.long q1), .second, .val (.long q2), .second, .val (.long q3), .second, .val (.long q4), .second] [(.ref u0)])) _
    refine XS.lload X8.here hx rfl (hb hby d1_97) rfl ?_
    show Steps p.tables e below (T8.setTop (mkF m 99 #[.val (.ref u0), .val (.long q1), .second, .val (.long q2), .second, .val (.long q3), .second, .val (.long q4), .second] [(.long q3), (.ref u0)])) _
    refine st9 _ ?_
    show Steps p.tables e below (T9.setTop (mkF m 102 #[.val (.ref u0), .val (.long q1), .second, .val (.long q2), .second, .val (.long q3), .second, .val (.long q4), .second] [])) _
    refine XS.aloadN X9.here hx rfl (hb hby d1_102) rfl rfl ?_
    show Steps p.tables e below (T9.setTop (mkF m 103 #[.val (.ref u0), .val (.long q1), .second, .val (.long q2), .second, .val (.long q3), .second, .val (.long q4), .second] [(.ref u0)])) _
    refine XS.lload X9.here hx rfl (hb hby d1_103) rfl ?_
    show Steps p.tables e below (T9.setTop (mkF m 105 #[.val (.ref u0), .val (.long q1), .second, .val (.long q2), .second, .val (.long q3), .second, .val (.long q4), .second] [(.long q4), (.ref u0)])) _
    refine st10 _ ?_
    show Steps p.tables e below (T10.setTop (mkF m 108 #[.val (.ref u0), .val (.long q1), .second, .val (.long q2), .second, .val (.long q3), .second, .val (.long q4), .second] [])) _
    exact X10.returnOut hx Bd.returns (hb hby d1_108) hr
  · show Q1 Z u0 q1 q2 q3 q4  h0 n0 _ T10.heap _
    rw [e10]
    exact ⟨rfl, N10, Kp10, ((((E0.wr W7).wr W8).wr W9).wr W10), (((Fw7.other W8 (Or.inr (slot_ne (Or.inr (hw _ (List.mem_of_getElem? (i := 16) rfl))) (Or.inr (hw _ (List.mem_of_getElem? (i := 18) rfl))) (by decide) (t := .long) (t' := .long) (by decide) (by decide)))).other W9 (Or.inr (slot_ne (Or.inr (hw _ (List.mem_of_getElem? (i := 16) rfl))) (Or.inr (hw _ (List.mem_of_getElem? (i := 20) rfl))) (by decide) (t := .long) (t' := .long) (by decide) (by decide)))).other W10 (Or.inr (slot_ne (Or.inr (hw _ (List.mem_of_getElem? (i := 16) rfl))) (Or.inr (hw _ (List.mem_of_getElem? (i := 22) rfl))) (by decide) (t := .long) (t' := .long) (by decide) (by decide)))), ((Fw8.other W9 (Or.inr (slot_ne (Or.inr (hw _ (List.mem_of_getElem? (i := 18) rfl))) (Or.inr (hw _ (List.mem_of_getElem? (i := 20) rfl))) (by decide) (t := .long) (t' := .long) (by decide) (by decide)))).other W10 (Or.inr (slot_ne (Or.inr (hw _ (List.mem_of_getElem? (i := 18) rfl))) (Or.inr (hw _ (List.mem_of_getElem? (i := 22) rfl))) (by decide) (t := .long) (t' := .long) (by decide) (by decide)))), (Fw9.other W10 (Or.inr (slot_ne (Or.inr (hw _ (List.mem_of_getElem? (i := 20) rfl))) (Or.inr (hw _ (List.mem_of_getElem? (i := 22) rfl))) (by decide) (t := .long) (t' := .long) (by decide) (by decide)))), Fw10⟩
theorem d5_0 : decode jdk_29_method_25_code 0 = .ok (.lload_n 0, 1) := by decide +kernel
theorem d5_1 : decode jdk_29_method_25_code 1 = .ok (.lload_n 2, 1) := by decide +kernel
theorem d5_2 : decode jdk_29_method_25_code 2 = .ok (.ladd, 1) := by decide +kernel
theorem d5_3 : decode jdk_29_method_25_code 3 = .ok (.lstore 4, 2) := by decide +kernel
theorem d5_5 : decode jdk_29_method_25_code 5 = .ok (.lload_n 0, 1) := by decide +kernel
theorem d5_6 : decode jdk_29_method_25_code 6 = .ok (.lload 4, 2) := by decide +kernel
theorem d5_8 : decode jdk_29_method_25_code 8 = .ok (.lxor, 1) := by decide +kernel
theorem d5_9 : decode jdk_29_method_25_code 9 = .ok (.lload_n 2, 1) := by decide +kernel
theorem d5_10 : decode jdk_29_method_25_code 10 = .ok (.lload 4, 2) := by decide +kernel
theorem d5_12 : decode jdk_29_method_25_code 12 = .ok (.lxor, 1) := by decide +kernel
theorem d5_13 : decode jdk_29_method_25_code 13 = .ok (.land, 1) := by decide +kernel
theorem d5_14 : decode jdk_29_method_25_code 14 = .ok (.lconst 0, 1) := by decide +kernel
theorem d5_15 : decode jdk_29_method_25_code 15 = .ok (.lcmp, 1) := by decide +kernel
theorem d5_16 : decode jdk_29_method_25_code 16 = .ok (.ifCond .ge 13, 3) := by decide +kernel
theorem d5_29 : decode jdk_29_method_25_code 29 = .ok (.lload 4, 2) := by decide +kernel
theorem d5_31 : decode jdk_29_method_25_code 31 = .ok (.lreturn, 1) := by decide +kernel
theorem ef_5 (m : MethodId) (q0 : Int64) (q1 : Int64)  : entryFrame m #[(.long q0), (.long q1)] 6 = mkF m 0 #[.val (.long q0), .second, .val (.long q1), .second, .unset, .unset] [] := by first | (simp [entryFrame, mkF, argsToLocals, Value.category]; done) | rfl
def Q5 (Z : State) (q0 : Int64) (q1 : Int64) (h0 : Heap) (n0 : Nat) (v : Option Value) (h : Heap) (L : List Loc) : Prop := v = some (.long (q0 + q1)) ∧ Fr n0 L ∧ h = h0
set_option maxRecDepth 65536 in
set_option maxHeartbeats 40000000 in
theorem rm5 (l : Launch) (Z : State) (a0 : Array Value) (hw : ∀ d ∈ tables_1, d.before a0 Z = true) (ws : List Jvm.Cond) (q0 : Int64) (q1 : Int64) (h0 : Heap) (n0 : Nat) (Z0 : n0 ≤ h0.size) (k1 : ¬ ((q0 ^^^ (q0 + q1)) &&& (q1 ^^^ (q0 + q1))) < (0 : Int64)) :
    MetFree l (⟨"java/lang/Math", "addExact", "(JJ)J"⟩ : MethodName) (head1 (Jvm.Cond.code (⟨"java/lang/Math", "addExact", "(JJ)J"⟩ : MethodName) jdk_29_method_25_code 6 (some .long) :: ws) ({ frames := 0, cells := 0, slots := 0, locals := 0 } : Room)) (fun a U => a = #[(.long q0), (.long q1)] ∧ Z.Warmed39 U.vm ∧ U.heap = h0) (fun _ _ _ _ _ => True) (fun _ U o U' => ∃ v L, o = .returned v ∧ Q5 Z q0 q1 h0 n0 v U'.heap L ∧ FrameEnd U o U' L ({ frames := 0, cells := 0, slots := 0, locals := 0 } : Room).cells ({ frames := 0, cells := 0, slots := 0, locals := 0 } : Room).slots) := by
  refine MetFree.of_bodySF (Jvm.Free.JP.mathPlain rfl (by decide +kernel)) hisR ?_
  intro p e s m args below meth c s₁ Bd hml0 hP hK
  obtain ⟨rfl, hZ, hh⟩ := hP
  have hx := Bd.exec
  have hby := Bd.bytes
  have hml : c.maxLocals = 6 := hml0
  have hown : s.vm.findClass "java/lang/Math" = some m.cls := findClass_of_methodNamed Bd.named
  have hnm := (name_of_methodNamed Bd.named Bd.method).1
  have X0 : Stand p l e ({ frames := 0, cells := 0, slots := 0, locals := 0 } : Room) s m #[(.long q0), (.long q1)] below meth c s₁ [] 0 0 := Stand.of_body Bd
  have e0 : s₁.heap = h0 := by rw [← hh, Bd.state]; rfl
  have N0 := Fr.nil n0
  have pre0 : ∀ t, Steps p.tables e below (s₁.setTop (mkF m 0 #[.val (.long q0), .second, .val (.long q1), .second, .unset, .unset] [])) t → Steps p.tables e below (s₁.setTop (entryFrame m #[(.long q0), (.long q1)] 6)) t := fun t k => castTop (ef_5 m q0 q1) k
  show Done p e below _ _
  refine Done.of ?_ pre0
  have hd16_1 : ¬ (((q0 ^^^ (q0 + q1)) &&& (q1 ^^^ (q0 + q1))) < (0 : Int64)) := by exact k1
  obtain ⟨fs, hr, hrun, hended, hW, hsame⟩ := X0.leave (v := some (.long (q0 + q1))) (fun h => by rw [Bd.returns] at h; cases h)
  refine ⟨_, _, ?_, hrun, hended, _, _, rfl, ?_, ⟨_, rfl⟩, hW, hsame.mono (by decide) (by decide)⟩
  · show Steps p.tables e below (s₁.setTop (mkF m 0 #[.val (.long q0), .second, .val (.long q1), .second, .unset, .unset] [])) _
    refine XS.lloadN X0.here hx rfl (hb hby d5_0) rfl ?_
    show Steps p.tables e below (s₁.setTop (mkF m 1 #[.val (.long q0), .second, .val (.long q1), .second, .unset, .unset] [(.long q0)])) _
    refine XS.lloadN X0.here hx rfl (hb hby d5_1) rfl ?_
    show Steps p.tables e below (s₁.setTop (mkF m 2 #[.val (.long q0), .second, .val (.long q1), .second, .unset, .unset] [(.long q1), (.long q0)])) _
    refine XS.ladd X0.here hx rfl (hb hby d5_2) rfl ?_
    show Steps p.tables e below (s₁.setTop (mkF m 3 #[.val (.long q0), .second, .val (.long q1), .second, .unset, .unset] [(.long (q0 + q1))])) _
    refine XS.lstore X0.here hx rfl (hb hby d5_3) rfl (l' := #[.val (.long q0), .second, .val (.long q1), .second, .val (.long (q0 + q1)), .second]) rfl ?_
    show Steps p.tables e below (s₁.setTop (mkF m 5 #[.val (.long q0), .second, .val (.long q1), .second, .val (.long (q0 + q1)), .second] [])) _
    refine XS.lloadN X0.here hx rfl (hb hby d5_5) rfl ?_
    show Steps p.tables e below (s₁.setTop (mkF m 6 #[.val (.long q0), .second, .val (.long q1), .second, .val (.long (q0 + q1)), .second] [(.long q0)])) _
    refine XS.lload X0.here hx rfl (hb hby d5_6) rfl ?_
    show Steps p.tables e below (s₁.setTop (mkF m 8 #[.val (.long q0), .second, .val (.long q1), .second, .val (.long (q0 + q1)), .second] [(.long (q0 + q1)), (.long q0)])) _
    refine XS.lxor X0.here hx rfl (hb hby d5_8) rfl ?_
    show Steps p.tables e below (s₁.setTop (mkF m 9 #[.val (.long q0), .second, .val (.long q1), .second, .val (.long (q0 + q1)), .second] [(.long (q0 ^^^ (q0 + q1)))])) _
    refine XS.lloadN X0.here hx rfl (hb hby d5_9) rfl ?_
    show Steps p.tables e below (s₁.setTop (mkF m 10 #[.val (.long q0), .second, .val (.long q1), .second, .val (.long (q0 + q1)), .second] [(.long q1), (.long (q0 ^^^ (q0 + q1)))])) _
    refine XS.lload X0.here hx rfl (hb hby d5_10) rfl ?_
    show Steps p.tables e below (s₁.setTop (mkF m 12 #[.val (.long q0), .second, .val (.long q1), .second, .val (.long (q0 + q1)), .second] [(.long (q0 + q1)), (.long q1), (.long (q0 ^^^ (q0 + q1)))])) _
    refine XS.lxor X0.here hx rfl (hb hby d5_12) rfl ?_
    show Steps p.tables e below (s₁.setTop (mkF m 13 #[.val (.long q0), .second, .val (.long q1), .second, .val (.long (q0 + q1)), .second] [(.long (q1 ^^^ (q0 + q1))), (.long (q0 ^^^ (q0 + q1)))])) _
    refine XS.land X0.here hx rfl (hb hby d5_13) rfl ?_
    show Steps p.tables e below (s₁.setTop (mkF m 14 #[.val (.long q0), .second, .val (.long q1), .second, .val (.long (q0 + q1)), .second] [(.long ((q0 ^^^ (q0 + q1)) &&& (q1 ^^^ (q0 + q1))))])) _
    refine XS.lconst X0.here hx rfl (hb hby d5_14) ?_
    show Steps p.tables e below (s₁.setTop (mkF m 15 #[.val (.long q0), .second, .val (.long q1), .second, .val (.long (q0 + q1)), .second] [(.long (0 : Int64)), (.long ((q0 ^^^ (q0 + q1)) &&& (q1 ^^^ (q0 + q1))))])) _
    refine XS.lcmp X0.here hx rfl (hb hby d5_15) rfl ?_
    show Steps p.tables e below (s₁.setTop (mkF m 16 #[.val (.long q0), .second, .val (.long q1), .second, .val (.long (q0 + q1)), .second] [(.int (lcmpW ((q0 ^^^ (q0 + q1)) &&& (q1 ^^^ (q0 + q1))) (0 : Int64)))])) _
    refine XS.ifYes X0.here hx rfl (pc0 := 16) (pc' := 29) rfl (hb hby d5_16) rfl ((if0 _ _).trans (flt (fun q => hd16_1 ((lw_lt ((q0 ^^^ (q0 + q1)) &&& (q1 ^^^ (q0 + q1))) (0 : Int64)).mp q))).2.1) (by decide) (by decide) ?_
    show Steps p.tables e below (s₁.setTop (mkF m 29 #[.val (.long q0), .second, .val (.long q1), .second, .val (.long (q0 + q1)), .second] [])) _
    refine XS.lload X0.here hx rfl (hb hby d5_29) rfl ?_
    show Steps p.tables e below (s₁.setTop (mkF m 31 #[.val (.long q0), .second, .val (.long q1), .second, .val (.long (q0 + q1)), .second] [(.long (q0 + q1))])) _
    jvm_step X0.here [X0.here.top, hx, (hb hby d5_31), X0.method', Bd.returns, narrow]
    first | (intro acts; rw [hr _ acts rfl rfl rfl]) | rw [hr _ _ rfl rfl rfl]
    exact Steps.refl _
  · show Q5 Z q0 q1  h0 n0 _ s₁.heap _
    rw [e0]
    refine ⟨?_, N0, rfl⟩
    rfl
theorem d6_0 : decode prog_22_method_3_code 0 = .ok (.aload_n 0, 1) := by decide +kernel
theorem d6_1 : decode prog_22_method_3_code 1 = .ok (.getfield 30, 3) := by decide +kernel
theorem d6_4 : decode prog_22_method_3_code 4 = .ok (.lconst 0, 1) := by decide +kernel
theorem d6_5 : decode prog_22_method_3_code 5 = .ok (.lcmp, 1) := by decide +kernel
theorem d6_6 : decode prog_22_method_3_code 6 = .ok (.ifCond .ne 16, 3) := by decide +kernel
theorem d6_9 : decode prog_22_method_3_code 9 = .ok (.aload_n 0, 1) := by decide +kernel
theorem d6_10 : decode prog_22_method_3_code 10 = .ok (.getfield 33, 3) := by decide +kernel
theorem d6_13 : decode prog_22_method_3_code 13 = .ok (.lconst 0, 1) := by decide +kernel
theorem d6_14 : decode prog_22_method_3_code 14 = .ok (.lcmp, 1) := by decide +kernel
theorem d6_15 : decode prog_22_method_3_code 15 = .ok (.ifCond .ne 7, 3) := by decide +kernel
theorem d6_18 : decode prog_22_method_3_code 18 = .ok (.iconst 1, 1) := by decide +kernel
theorem d6_19 : decode prog_22_method_3_code 19 = .ok (.goto 4, 3) := by decide +kernel
theorem d6_22 : decode prog_22_method_3_code 22 = .ok (.iconst 0, 1) := by decide +kernel
theorem d6_23 : decode prog_22_method_3_code 23 = .ok (.ireturn, 1) := by decide +kernel
theorem pn_6 : plainName "com/example/ensyn/ensyn/replay/TokenCounts" = true := by first | (simp [plainName, overriddenIn]; done) | decide +kernel
theorem ef_6 (m : MethodId) (u0 : Addr)  : entryFrame m #[(.ref u0)] 1 = mkF m 0 #[.val (.ref u0)] [] := by first | (simp [entryFrame, mkF, argsToLocals, Value.category]; done) | rfl
def Q6 (Z : State) (u0 : Addr) (w1 : Int64) (w2 : Int64) (h0 : Heap) (n0 : Nat) (v : Option Value) (h : Heap) (L : List Loc) : Prop := v = some (.int (if w1 = (0 : Int64) then (if w2 = (0 : Int64) then (1 : Int32) else (0 : Int32)) else (0 : Int32))) ∧ Fr n0 L ∧ h = h0
set_option maxRecDepth 65536 in
set_option maxHeartbeats 40000000 in
theorem rm6 (l : Launch) (Z : State) (a0 : Array Value) (hw : ∀ d ∈ tables_1, d.before a0 Z = true) (ws : List Jvm.Cond) (u0 : Addr) (w1 : Int64) (w2 : Int64) (h0 : Heap) (n0 : Nat) (Z0 : n0 ≤ h0.size) (F_missing : Fld Z h0 u0 "com/example/ensyn/ensyn/replay/TokenCounts" "missing" "J" (.long w1)) (F_remaining : Fld Z h0 u0 "com/example/ensyn/ensyn/replay/TokenCounts" "remaining" "J" (.long w2)) :
    MetFree l (⟨"com/example/ensyn/ensyn/replay/TokenCounts", "fits", "()Z"⟩ : MethodName) (head1 (Jvm.Cond.code (⟨"com/example/ensyn/ensyn/replay/TokenCounts", "fits", "()Z"⟩ : MethodName) prog_22_method_3_code 1 (some .boolean) :: ws) ({ frames := 0, cells := 0, slots := 0, locals := 0 } : Room)) (fun a U => a = #[(.ref u0)] ∧ Z.Warmed39 U.vm ∧ U.heap = h0) (fun _ _ _ _ _ => True) (fun _ U o U' => ∃ v L, o = .returned v ∧ Q6 Z u0 w1 w2 h0 n0 v U'.heap L ∧ FrameEnd U o U' L ({ frames := 0, cells := 0, slots := 0, locals := 0 } : Room).cells ({ frames := 0, cells := 0, slots := 0, locals := 0 } : Room).slots) := by
  refine MetFree.of_bodySF (plainFor_of_name pn_6) hisR ?_
  intro p e s m args below meth c s₁ Bd hml0 hP hK
  obtain ⟨rfl, hZ, hh⟩ := hP
  have hx := Bd.exec
  have hby := Bd.bytes
  have hml : c.maxLocals = 1 := hml0
  have hown : s.vm.findClass "com/example/ensyn/ensyn/replay/TokenCounts" = some m.cls := findClass_of_methodNamed Bd.named
  have hnm := (name_of_methodNamed Bd.named Bd.method).1
  have X0 : Stand p l e ({ frames := 0, cells := 0, slots := 0, locals := 0 } : Room) s m #[(.ref u0)] below meth c s₁ [] 0 0 := Stand.of_body Bd
  have e0 : s₁.heap = h0 := by rw [← hh, Bd.state]; rfl
  have N0 := Fr.nil n0
  have pre0 : ∀ t, Steps p.tables e below (s₁.setTop (mkF m 0 #[.val (.ref u0)] [])) t → Steps p.tables e below (s₁.setTop (entryFrame m #[(.ref u0)] 1)) t := fun t k => castTop (ef_6 m u0) k
  show Done p e below _ _
  refine Done.of ?_ pre0
  obtain ⟨T1, X1, e1, st1⟩ := getF X0 hx hZ hown (host := "") (Or.inl (hw _ (List.mem_of_getElem? (i := 19) rfl))) Via.refl e0 F_missing (g := (mkF m 1 #[.val (.ref u0)] [(.ref u0)])) rfl rfl (hb hby d6_1)
  have K2 : ∀ target, Steps p.tables e below (T1.setTop (mkF m 6 #[.val (.ref u0)] [(.int (lcmpW w1 (0 : Int64)))])) target → Steps p.tables e below (s₁.setTop (mkF m 0 #[.val (.ref u0)] [])) target := by
    intro target kt
    show Steps p.tables e below (s₁.setTop (mkF m 0 #[.val (.ref u0)] [])) _
    refine XS.aloadN X0.here hx rfl (hb hby d6_0) rfl rfl ?_
    show Steps p.tables e below (s₁.setTop (mkF m 1 #[.val (.ref u0)] [(.ref u0)])) _
    refine st1 _ ?_
    show Steps p.tables e below (T1.setTop (mkF m 4 #[.val (.ref u0)] [(.long w1)])) _
    refine XS.lconst X1.here hx rfl (hb hby d6_4) ?_
    show Steps p.tables e below (T1.setTop (mkF m 5 #[.val (.ref u0)] [(.long (0 : Int64)), (.long w1)])) _
    refine XS.lcmp X1.here hx rfl (hb hby d6_5) rfl ?_
    exact kt
  refine Done.of ?_ K2
  by_cases hc6_3 : w1 = (0 : Int64)
  · have K : ∀ target, Steps p.tables e below (T1.setTop (mkF m 9 #[.val (.ref u0)] [])) target → Steps p.tables e below (T1.setTop (mkF m 6 #[.val (.ref u0)] [(.int (lcmpW w1 (0 : Int64)))])) target := by
      intro target kt
      refine XS.ifNo X1.here hx rfl (hb hby d6_6) rfl ((if0 _ _).trans (teq ((lw_eq w1 (0 : Int64)).mpr hc6_3)).2) ?_
      exact kt
    refine Done.of ?_ K
    obtain ⟨T4, X4, e4, st4⟩ := getF X1 hx hZ hown (host := "") (Or.inl (hw _ (List.mem_of_getElem? (i := 21) rfl))) Via.refl e1 F_remaining (g := (mkF m 10 #[.val (.ref u0)] [(.ref u0)])) rfl rfl (hb hby d6_10)
    have J15_5 : ∀ wj : Int32, wj = (if w2 = (0 : Int64) then (1 : Int32) else (0 : Int32)) → ∀ target, Steps p.tables e below (T4.setTop (mkF m 23 #[.val (.ref u0)] [(.int wj)])) target → Steps p.tables e below (T4.setTop (mkF m 15 #[.val (.ref u0)] [(.int (lcmpW w2 (0 : Int64)))])) target := by
      intro wj hw0 target kt
      by_cases hj15 : w2 = (0 : Int64)
      · rw [if_pos hj15] at hw0
        show Steps p.tables e below (T4.setTop (mkF m 15 #[.val (.ref u0)] [(.int (lcmpW w2 (0 : Int64)))])) _
        refine XS.ifNo X4.here hx rfl (hb hby d6_15) rfl ((if0 _ _).trans (teq ((lw_eq w2 (0 : Int64)).mpr hj15)).2) ?_
        show Steps p.tables e below (T4.setTop (mkF m 18 #[.val (.ref u0)] [])) _
        refine XS.iconst X4.here hx rfl (hb hby d6_18) ?_
        show Steps p.tables e below (T4.setTop (mkF m 19 #[.val (.ref u0)] [(.int (1 : Int32))])) _
        refine XS.goto X4.here hx rfl (pc0 := 19) (pc' := 23) rfl (hb hby d6_19) (by decide) (by decide) ?_
        rw [hw0] at kt
        exact kt
      · rw [if_neg hj15] at hw0
        show Steps p.tables e below (T4.setTop (mkF m 15 #[.val (.ref u0)] [(.int (lcmpW w2 (0 : Int64)))])) _
        refine XS.ifYes X4.here hx rfl (pc0 := 15) (pc' := 22) rfl (hb hby d6_15) rfl ((if0 _ _).trans (feq (fun q => hj15 ((lw_eq w2 (0 : Int64)).mp q))).2) (by decide) (by decide) ?_
        show Steps p.tables e below (T4.setTop (mkF m 22 #[.val (.ref u0)] [])) _
        refine XS.iconst X4.here hx rfl (hb hby d6_22) ?_
        rw [hw0] at kt
        exact kt
    obtain ⟨fs, hr, hrun, hended, hW, hsame⟩ := X4.leave (v := some (.int (nar .boolean (if w2 = (0 : Int64) then (1 : Int32) else (0 : Int32))))) (fun h => by rw [Bd.returns] at h; cases h)
    refine ⟨_, _, ?_, hrun, hended, _, _, rfl, ?_, ⟨_, rfl⟩, hW, hsame.mono (by decide) (by decide)⟩
    · show Steps p.tables e below (T1.setTop (mkF m 9 #[.val (.ref u0)] [])) _
      refine XS.aloadN X1.here hx rfl (hb hby d6_9) rfl rfl ?_
      show Steps p.tables e below (T1.setTop (mkF m 10 #[.val (.ref u0)] [(.ref u0)])) _
      refine st4 _ ?_
      show Steps p.tables e below (T4.setTop (mkF m 13 #[.val (.ref u0)] [(.long w2)])) _
      refine XS.lconst X4.here hx rfl (hb hby d6_13) ?_
      show Steps p.tables e below (T4.setTop (mkF m 14 #[.val (.ref u0)] [(.long (0 : Int64)), (.long w2)])) _
      refine XS.lcmp X4.here hx rfl (hb hby d6_14) rfl ?_
      show Steps p.tables e below (T4.setTop (mkF m 15 #[.val (.ref u0)] [(.int (lcmpW w2 (0 : Int64)))])) _
      refine J15_5 _ rfl _ ?_
      show Steps p.tables e below (T4.setTop (mkF m 23 #[.val (.ref u0)] [(.int (if w2 = (0 : Int64) then (1 : Int32) else (0 : Int32)))])) _
      exact retN X4 hx (t := .boolean) Bd.returns (by simp) (hb hby d6_23) hr
    · show Q6 Z u0 w1 w2 h0 n0 _ T4.heap _
      rw [e4]
      refine ⟨?_, N0, rfl⟩
      (simp only [if_pos hc6_3] <;> (repeat' split) <;> rfl)
  · have K : ∀ target, Steps p.tables e below (T1.setTop (mkF m 22 #[.val (.ref u0)] [])) target → Steps p.tables e below (T1.setTop (mkF m 6 #[.val (.ref u0)] [(.int (lcmpW w1 (0 : Int64)))])) target := by
      intro target kt
      refine XS.ifYes X1.here hx rfl (pc0 := 6) (pc' := 22) rfl (hb hby d6_6) rfl ((if0 _ _).trans (feq (fun q => hc6_3 ((lw_eq w1 (0 : Int64)).mp q))).2) (by decide) (by decide) ?_
      exact kt
    refine Done.of ?_ K
    obtain ⟨fs, hr, hrun, hended, hW, hsame⟩ := X1.leave (v := some (.int (0 : Int32))) (fun h => by rw [Bd.returns] at h; cases h)
    refine ⟨_, _, ?_, hrun, hended, _, _, rfl, ?_, ⟨_, rfl⟩, hW, hsame.mono (by decide) (by decide)⟩
    · show Steps p.tables e below (T1.setTop (mkF m 22 #[.val (.ref u0)] [])) _
      refine XS.iconst X1.here hx rfl (hb hby d6_22) ?_
      show Steps p.tables e below (T1.setTop (mkF m 23 #[.val (.ref u0)] [(.int (0 : Int32))])) _
      exact retN X1 hx (t := .boolean) Bd.returns (by simp) (hb hby d6_23) hr
    · show Q6 Z u0 w1 w2 h0 n0 _ T1.heap _
      rw [e1]
      refine ⟨?_, N0, rfl⟩
      (simp only [if_neg hc6_3])
theorem d4_0 : decode prog_22_method_2_code 0 = .ok (.new 10, 3) := by decide +kernel
theorem d4_3 : decode prog_22_method_2_code 3 = .ok (.dup, 1) := by decide +kernel
theorem d4_4 : decode prog_22_method_2_code 4 = .ok (.aload_n 0, 1) := by decide +kernel
theorem d4_5 : decode prog_22_method_2_code 5 = .ok (.getfield 23, 3) := by decide +kernel
theorem d4_8 : decode prog_22_method_2_code 8 = .ok (.aload_n 1, 1) := by decide +kernel
theorem d4_9 : decode prog_22_method_2_code 9 = .ok (.getfield 23, 3) := by decide +kernel
theorem d4_12 : decode prog_22_method_2_code 12 = .ok (.invokestatic 36, 3) := by decide +kernel
theorem d4_15 : decode prog_22_method_2_code 15 = .ok (.aload_n 0, 1) := by decide +kernel
theorem d4_16 : decode prog_22_method_2_code 16 = .ok (.getfield 27, 3) := by decide +kernel
theorem d4_19 : decode prog_22_method_2_code 19 = .ok (.aload_n 1, 1) := by decide +kernel
theorem d4_20 : decode prog_22_method_2_code 20 = .ok (.getfield 27, 3) := by decide +kernel
theorem d4_23 : decode prog_22_method_2_code 23 = .ok (.invokestatic 36, 3) := by decide +kernel
theorem d4_26 : decode prog_22_method_2_code 26 = .ok (.aload_n 0, 1) := by decide +kernel
theorem d4_27 : decode prog_22_method_2_code 27 = .ok (.getfield 30, 3) := by decide +kernel
theorem d4_30 : decode prog_22_method_2_code 30 = .ok (.aload_n 1, 1) := by decide +kernel
theorem d4_31 : decode prog_22_method_2_code 31 = .ok (.getfield 30, 3) := by decide +kernel
theorem d4_34 : decode prog_22_method_2_code 34 = .ok (.invokestatic 36, 3) := by decide +kernel
theorem d4_37 : decode prog_22_method_2_code 37 = .ok (.aload_n 0, 1) := by decide +kernel
theorem d4_38 : decode prog_22_method_2_code 38 = .ok (.getfield 33, 3) := by decide +kernel
theorem d4_41 : decode prog_22_method_2_code 41 = .ok (.aload_n 1, 1) := by decide +kernel
theorem d4_42 : decode prog_22_method_2_code 42 = .ok (.getfield 33, 3) := by decide +kernel
theorem d4_45 : decode prog_22_method_2_code 45 = .ok (.invokestatic 36, 3) := by decide +kernel
theorem d4_48 : decode prog_22_method_2_code 48 = .ok (.invokespecial 42, 3) := by decide +kernel
theorem d4_51 : decode prog_22_method_2_code 51 = .ok (.areturn, 1) := by decide +kernel
theorem pn_4 : plainName "com/example/ensyn/ensyn/replay/TokenCounts" = true := by first | (simp [plainName, overriddenIn]; done) | decide +kernel
theorem pd_1 : parseMethodDescriptor "(JJ)J" = some ⟨[.long, .long], some .long⟩ := by decide +kernel
theorem pd_2 : parseMethodDescriptor "(JJJJ)V" = some ⟨[.long, .long, .long, .long], none⟩ := by decide +kernel
theorem ef_4 (m : MethodId) (u0 : Addr) (u1 : Addr)  : entryFrame m #[(.ref u0), (.ref u1)] 2 = mkF m 0 #[.val (.ref u0), .val (.ref u1)] [] := by first | (simp [entryFrame, mkF, argsToLocals, Value.category]; done) | rfl
def Q4 (Z : State) (u0 : Addr) (u1 : Addr) (x1 : Int64) (x2 : Int64) (x3 : Int64) (x4 : Int64) (y1 : Int64) (y2 : Int64) (y3 : Int64) (y4 : Int64) (h0 : Heap) (n0 : Nat) (v : Option Value) (h : Heap) (L : List Loc) : Prop := ∃ b : Addr, v = some (.ref b) ∧ Fr n0 L ∧ Keep h0 h [] ∧ Exa Z h b "com/example/ensyn/ensyn/replay/TokenCounts" ∧ h0.size ≤ b ∧ Fld Z h b "com/example/ensyn/ensyn/replay/TokenCounts" "missing" "J" (.long (x3 + y3)) ∧ Fld Z h b "com/example/ensyn/ensyn/replay/TokenCounts" "remaining" "J" (.long (x4 + y4))
set_option maxRecDepth 65536 in
set_option maxHeartbeats 40000000 in
theorem rm4 (l : Launch) (Z : State) (a0 : Array Value) (hw : ∀ d ∈ tables_1, d.before a0 Z = true) (ws : List Jvm.Cond) (u0 : Addr) (u1 : Addr) (x1 : Int64) (x2 : Int64) (x3 : Int64) (x4 : Int64) (y1 : Int64) (y2 : Int64) (y3 : Int64) (y4 : Int64) (h0 : Heap) (n0 : Nat) (Z0 : n0 ≤ h0.size) (Fx_consumed : Fld Z h0 u0 "com/example/ensyn/ensyn/replay/TokenCounts" "consumed" "J" (.long x1)) (Fx_produced : Fld Z h0 u0 "com/example/ensyn/ensyn/replay/TokenCounts" "produced" "J" (.long x2)) (Fx_missing : Fld Z h0 u0 "com/example/ensyn/ensyn/replay/TokenCounts" "missing" "J" (.long x3)) (Fx_remaining : Fld Z h0 u0 "com/example/ensyn/ensyn/replay/TokenCounts" "remaining" "J" (.long x4)) (Fy_consumed : Fld Z h0 u1 "com/example/ensyn/ensyn/replay/TokenCounts" "consumed" "J" (.long y1)) (Fy_produced : Fld Z h0 u1 "com/example/ensyn/ensyn/replay/TokenCounts" "produced" "J" (.long y2)) (Fy_missing : Fld Z h0 u1 "com/example/ensyn/ensyn/replay/TokenCounts" "missing" "J" (.long y3)) (Fy_remaining : Fld Z h0 u1 "com/example/ensyn/ensyn/replay/TokenCounts" "remaining" "J" (.long y4)) (o1 : ¬ ((x1 ^^^ (x1 + y1)) &&& (y1 ^^^ (x1 + y1))) < (0 : Int64)) (o2 : ¬ ((x2 ^^^ (x2 + y2)) &&& (y2 ^^^ (x2 + y2))) < (0 : Int64)) (o3 : ¬ ((x3 ^^^ (x3 + y3)) &&& (y3 ^^^ (x3 + y3))) < (0 : Int64)) (o4 : ¬ ((x4 ^^^ (x4 + y4)) &&& (y4 ^^^ (x4 + y4))) < (0 : Int64)) (k1 : ¬ ((x1 + y1) < (0 : Int64))) (k2 : ¬ ((x2 + y2) < (0 : Int64))) (k3 : ¬ ((x3 + y3) < (0 : Int64))) (k4 : ¬ ((x4 + y4) < (0 : Int64))) (k5 : ((x2 + y2) - (x1 + y1)) = ((x4 + y4) - (x3 + y3))) :
    MetFree l (⟨"com/example/ensyn/ensyn/replay/TokenCounts", "plus", "(Lcom/example/ensyn/ensyn/replay/TokenCounts;)Lcom/example/ensyn/ensyn/replay/TokenCounts;"⟩ : MethodName) (head1 (Jvm.Cond.code (⟨"com/example/ensyn/ensyn/replay/TokenCounts", "plus", "(Lcom/example/ensyn/ensyn/replay/TokenCounts;)Lcom/example/ensyn/ensyn/replay/TokenCounts;"⟩ : MethodName) prog_22_method_2_code 2 (some (.object "com/example/ensyn/ensyn/replay/TokenCounts")) :: ws) ({ frames := 3, cells := 1, slots := 4, locals := 45 } : Room)) (fun a U => a = #[(.ref u0), (.ref u1)] ∧ Z.Warmed39 U.vm ∧ U.heap = h0) (fun _ _ _ _ _ => True) (fun _ U o U' => ∃ v L, o = .returned v ∧ Q4 Z u0 u1 x1 x2 x3 x4 y1 y2 y3 y4 h0 n0 v U'.heap L ∧ FrameEnd U o U' L ({ frames := 3, cells := 1, slots := 4, locals := 45 } : Room).cells ({ frames := 3, cells := 1, slots := 4, locals := 45 } : Room).slots) := by
  refine MetFree.of_bodySF (plainFor_of_name pn_4) hisR ?_
  intro p e s m args below meth c s₁ Bd hml0 hP hK
  obtain ⟨rfl, hZ, hh⟩ := hP
  have hx := Bd.exec
  have hby := Bd.bytes
  have hml : c.maxLocals = 2 := hml0
  have hown : s.vm.findClass "com/example/ensyn/ensyn/replay/TokenCounts" = some m.cls := findClass_of_methodNamed Bd.named
  have hnm := (name_of_methodNamed Bd.named Bd.method).1
  have X0 : Stand p l e ({ frames := 3, cells := 1, slots := 4, locals := 45 } : Room) s m #[(.ref u0), (.ref u1)] below meth c s₁ [] 0 0 := Stand.of_body Bd
  have e0 : s₁.heap = h0 := by rw [← hh, Bd.state]; rfl
  have N0 := Fr.nil n0
  have pre0 : ∀ t, Steps p.tables e below (s₁.setTop (mkF m 0 #[.val (.ref u0), .val (.ref u1)] [])) t → Steps p.tables e below (s₁.setTop (entryFrame m #[(.ref u0), (.ref u1)] 2)) t := fun t k => castTop (ef_4 m u0 u1) k
  show Done p e below _ _
  refine Done.of ?_ pre0
  obtain ⟨T1, h1, X1, e1, E1, A1, D1, -, st1⟩ := newO X0 hx hZ hown (hw _ (List.mem_of_getElem? (i := 28) rfl)) (hw _ (List.mem_of_getElem? (i := 2) rfl)) (hw _ (List.mem_of_getElem? (i := 3) rfl)) e0 (g := (mkF m 0 #[.val (.ref u0), .val (.ref u1)] [])) rfl (hb hby d4_0) (by decide) (by decide)
  obtain ⟨b1, g1⟩ : ∃ z, z = h0.size := ⟨_, rfl⟩
  rw [← g1] at A1 D1 st1
  have gnb1 : n0 ≤ b1 := Nat.le_trans Z0 (Nat.le_of_eq g1.symm)
  have Z1 : n0 ≤ h1.size := Nat.le_trans Z0 E1.1
  have szb1 : h0.size ≤ b1 := Nat.le_trans (Keep.refl h0 []).1 (Nat.le_of_eq g1.symm)
  have Kp1 := (Keep.refl h0 []).ext E1
  have ne_1_1 : u0 ≠ b1 := Nat.ne_of_lt (Nat.lt_of_lt_of_le Fx_consumed.lt (Nat.le_of_eq g1.symm))
  have ne_1_2 : u1 ≠ b1 := Nat.ne_of_lt (Nat.lt_of_lt_of_le Fy_consumed.lt (Nat.le_of_eq g1.symm))
  have F1_consumed : Fld Z h1 b1 "com/example/ensyn/ensyn/replay/TokenCounts" "consumed" "J" (.long (0 : Int64)) := D1 (Or.inr (hw _ (List.mem_of_getElem? (i := 16) rfl))) (ty := .long) (by decide)
  have F1_produced : Fld Z h1 b1 "com/example/ensyn/ensyn/replay/TokenCounts" "produced" "J" (.long (0 : Int64)) := D1 (Or.inr (hw _ (List.mem_of_getElem? (i := 18) rfl))) (ty := .long) (by decide)
  have F1_missing : Fld Z h1 b1 "com/example/ensyn/ensyn/replay/TokenCounts" "missing" "J" (.long (0 : Int64)) := D1 (Or.inr (hw _ (List.mem_of_getElem? (i := 20) rfl))) (ty := .long) (by decide)
  have F1_remaining : Fld Z h1 b1 "com/example/ensyn/ensyn/replay/TokenCounts" "remaining" "J" (.long (0 : Int64)) := D1 (Or.inr (hw _ (List.mem_of_getElem? (i := 22) rfl))) (ty := .long) (by decide)
  obtain ⟨T2, X2, e2, st2⟩ := getF X1 hx hZ hown (host := "") (Or.inl (hw _ (List.mem_of_getElem? (i := 15) rfl))) Via.refl e1 (Fx_consumed.ext E1) (g := (mkF m 5 #[.val (.ref u0), .val (.ref u1)] [(.ref u0), (.ref b1), (.ref b1)])) rfl rfl (hb hby d4_5)
  obtain ⟨T3, X3, e3, st3⟩ := getF X2 hx hZ hown (host := "") (Or.inl (hw _ (List.mem_of_getElem? (i := 15) rfl))) Via.refl e2 (Fy_consumed.ext E1) (g := (mkF m 9 #[.val (.ref u0), .val (.ref u1)] [(.ref u1), (.long x1), (.ref b1), (.ref b1)])) rfl rfl (hb hby d4_9)
  obtain ⟨_, _, ⟨T4, L4, k4, n4⟩, -, X4, ⟨Lc4, hQ4, l4, y4, z4⟩, st4⟩ := Jvm.LawKit.callS X3 hx (y := (⟨"java/lang/Math", "addExact", "(JJ)J"⟩ : MethodName)) hown (mvT hZ (hw _ (List.mem_of_getElem? (i := 29) rfl))) (mvT hZ (hw _ (List.mem_of_getElem? (i := 30) rfl))) (mvT hZ (hw _ (List.mem_of_getElem? (i := 31) rfl))) (mvT hZ (hw _ (List.mem_of_getElem? (i := 32) rfl))) (by decide) (backOf (W := 2) (rm5 l Z a0 hw [] x1 y1 h1 n0 Z1 o1) hZ (hw _ (List.mem_of_getElem? (i := 32) rfl)) (hw _ (List.mem_of_getElem? (i := 31) rfl)) (by decide) (by decide)) (g := (mkF m 12 #[.val (.ref u0), .val (.ref u1)] [(.long y1), (.long x1), (.ref b1), (.ref b1)])) rfl (by rw [hml]; rfl) (argsL := [(.long x1), (.long y1)]) (rest := [(.ref b1), (.ref b1)]) (lenOf pd_1 rfl) rfl (by show 2 * 0 + _ ≤ _; exact Nat.le_of_eq rfl) (hb hby d4_12) (fun _ _ => ⟨rfl, e3, (by decide : 1 + 0 ≤ _), (by decide : 4 + 0 ≤ _)⟩)
  dsimp only [Pt.U, Pt.locs, Pt.cells, Pt.slots] at X4 l4 y4 z4 st4 hQ4
  subst l4 y4 z4
  obtain ⟨rfl, N4q, e4⟩ := hQ4
  have N4 := Fr.app N0 N4q
  obtain ⟨T5, X5, e5, st5⟩ := getF X4 hx hZ hown (host := "") (Or.inl (hw _ (List.mem_of_getElem? (i := 17) rfl))) Via.refl e4 (Fx_produced.ext E1) (g := (mkF m 16 #[.val (.ref u0), .val (.ref u1)] [(.ref u0), (.long (x1 + y1)), (.ref b1), (.ref b1)])) rfl rfl (hb hby d4_16)
  obtain ⟨T6, X6, e6, st6⟩ := getF X5 hx hZ hown (host := "") (Or.inl (hw _ (List.mem_of_getElem? (i := 17) rfl))) Via.refl e5 (Fy_produced.ext E1) (g := (mkF m 20 #[.val (.ref u0), .val (.ref u1)] [(.ref u1), (.long x2), (.long (x1 + y1)), (.ref b1), (.ref b1)])) rfl rfl (hb hby d4_20)
  obtain ⟨_, _, ⟨T7, L7, k7, n7⟩, -, X7, ⟨Lc7, hQ7, l7, y7, z7⟩, st7⟩ := Jvm.LawKit.callS X6 hx (y := (⟨"java/lang/Math", "addExact", "(JJ)J"⟩ : MethodName)) hown (mvT hZ (hw _ (List.mem_of_getElem? (i := 29) rfl))) (mvT hZ (hw _ (List.mem_of_getElem? (i := 30) rfl))) (mvT hZ (hw _ (List.mem_of_getElem? (i := 31) rfl))) (mvT hZ (hw _ (List.mem_of_getElem? (i := 32) rfl))) (by decide) (backOf (W := 4) (rm5 l Z a0 hw [] x2 y2 h1 n0 Z1 o2) hZ (hw _ (List.mem_of_getElem? (i := 32) rfl)) (hw _ (List.mem_of_getElem? (i := 31) rfl)) (by decide) (by decide)) (g := (mkF m 23 #[.val (.ref u0), .val (.ref u1)] [(.long y2), (.long x2), (.long (x1 + y1)), (.ref b1), (.ref b1)])) rfl (by rw [hml]; rfl) (argsL := [(.long x2), (.long y2)]) (rest := [(.long (x1 + y1)), (.ref b1), (.ref b1)]) (lenOf pd_1 rfl) rfl (by show 2 * 0 + _ ≤ _; exact Nat.le_of_eq rfl) (hb hby d4_23) (fun _ _ => ⟨rfl, e6, (by decide : 1 + 0 ≤ _), (by decide : 4 + 0 ≤ _)⟩)
  dsimp only [Pt.U, Pt.locs, Pt.cells, Pt.slots] at X7 l7 y7 z7 st7 hQ7
  subst l7 y7 z7
  obtain ⟨rfl, N7q, e7⟩ := hQ7
  have N7 := Fr.app N4 N7q
  obtain ⟨T8, X8, e8, st8⟩ := getF X7 hx hZ hown (host := "") (Or.inl (hw _ (List.mem_of_getElem? (i := 19) rfl))) Via.refl e7 (Fx_missing.ext E1) (g := (mkF m 27 #[.val (.ref u0), .val (.ref u1)] [(.ref u0), (.long (x2 + y2)), (.long (x1 + y1)), (.ref b1), (.ref b1)])) rfl rfl (hb hby d4_27)
  obtain ⟨T9, X9, e9, st9⟩ := getF X8 hx hZ hown (host := "") (Or.inl (hw _ (List.mem_of_getElem? (i := 19) rfl))) Via.refl e8 (Fy_missing.ext E1) (g := (mkF m 31 #[.val (.ref u0), .val (.ref u1)] [(.ref u1), (.long x3), (.long (x2 + y2)), (.long (x1 + y1)), (.ref b1), (.ref b1)])) rfl rfl (hb hby d4_31)
  obtain ⟨_, _, ⟨T10, L10, k10, n10⟩, -, X10, ⟨Lc10, hQ10, l10, y10, z10⟩, st10⟩ := Jvm.LawKit.callS X9 hx (y := (⟨"java/lang/Math", "addExact", "(JJ)J"⟩ : MethodName)) hown (mvT hZ (hw _ (List.mem_of_getElem? (i := 29) rfl))) (mvT hZ (hw _ (List.mem_of_getElem? (i := 30) rfl))) (mvT hZ (hw _ (List.mem_of_getElem? (i := 31) rfl))) (mvT hZ (hw _ (List.mem_of_getElem? (i := 32) rfl))) (by decide) (backOf (W := 6) (rm5 l Z a0 hw [] x3 y3 h1 n0 Z1 o3) hZ (hw _ (List.mem_of_getElem? (i := 32) rfl)) (hw _ (List.mem_of_getElem? (i := 31) rfl)) (by decide) (by decide)) (g := (mkF m 34 #[.val (.ref u0), .val (.ref u1)] [(.long y3), (.long x3), (.long (x2 + y2)), (.long (x1 + y1)), (.ref b1), (.ref b1)])) rfl (by rw [hml]; rfl) (argsL := [(.long x3), (.long y3)]) (rest := [(.long (x2 + y2)), (.long (x1 + y1)), (.ref b1), (.ref b1)]) (lenOf pd_1 rfl) rfl (by show 2 * 0 + _ ≤ _; exact Nat.le_of_eq rfl) (hb hby d4_34) (fun _ _ => ⟨rfl, e9, (by decide : 1 + 0 ≤ _), (by decide : 4 + 0 ≤ _)⟩)
  dsimp only [Pt.U, Pt.locs, Pt.cells, Pt.slots] at X10 l10 y10 z10 st10 hQ10
  subst l10 y10 z10
  obtain ⟨rfl, N10q, e10⟩ := hQ10
  have N10 := Fr.app N7 N10q
  obtain ⟨T11, X11, e11, st11⟩ := getF X10 hx hZ hown (host := "") (Or.inl (hw _ (List.mem_of_getElem? (i := 21) rfl))) Via.refl e10 (Fx_remaining.ext E1) (g := (mkF m 38 #[.val (.ref u0), .val (.ref u1)] [(.ref u0), (.long (x3 + y3)), (.long (x2 + y2)), (.long (x1 + y1)), (.ref b1), (.ref b1)])) rfl rfl (hb hby d4_38)
  obtain ⟨T12, X12, e12, st12⟩ := getF X11 hx hZ hown (host := "") (Or.inl (hw _ (List.mem_of_getElem? (i := 21) rfl))) Via.refl e11 (Fy_remaining.ext E1) (g := (mkF m 42 #[.val (.ref u0), .val (.ref u1)] [(.ref u1), (.long x4), (.long (x3 + y3)), (.long (x2 + y2)), (.long (x1 + y1)), (.ref b1), (.ref b1)])) rfl rfl (hb hby d4_42)
  obtain ⟨_, _, ⟨T13, L13, k13, n13⟩, -, X13, ⟨Lc13, hQ13, l13, y13, z13⟩, st13⟩ := Jvm.LawKit.callS X12 hx (y := (⟨"java/lang/Math", "addExact", "(JJ)J"⟩ : MethodName)) hown (mvT hZ (hw _ (List.mem_of_getElem? (i := 29) rfl))) (mvT hZ (hw _ (List.mem_of_getElem? (i := 30) rfl))) (mvT hZ (hw _ (List.mem_of_getElem? (i := 31) rfl))) (mvT hZ (hw _ (List.mem_of_getElem? (i := 32) rfl))) (by decide) (backOf (W := 8) (rm5 l Z a0 hw [] x4 y4 h1 n0 Z1 o4) hZ (hw _ (List.mem_of_getElem? (i := 32) rfl)) (hw _ (List.mem_of_getElem? (i := 31) rfl)) (by decide) (by decide)) (g := (mkF m 45 #[.val (.ref u0), .val (.ref u1)] [(.long y4), (.long x4), (.long (x3 + y3)), (.long (x2 + y2)), (.long (x1 + y1)), (.ref b1), (.ref b1)])) rfl (by rw [hml]; rfl) (argsL := [(.long x4), (.long y4)]) (rest := [(.long (x3 + y3)), (.long (x2 + y2)), (.long (x1 + y1)), (.ref b1), (.ref b1)]) (lenOf pd_1 rfl) rfl (by show 2 * 0 + _ ≤ _; exact Nat.le_of_eq rfl) (hb hby d4_45) (fun _ _ => ⟨rfl, e12, (by decide : 1 + 0 ≤ _), (by decide : 4 + 0 ≤ _)⟩)
  dsimp only [Pt.U, Pt.locs, Pt.cells, Pt.slots] at X13 l13 y13 z13 st13 hQ13
  subst l13 y13 z13
  obtain ⟨rfl, N13q, e13⟩ := hQ13
  have N13 := Fr.app N10 N13q
  obtain ⟨_, _, ⟨T14, L14, k14, n14⟩, -, X14, ⟨Lc14, hQ14, l14, y14, z14⟩, st14⟩ := X13.specialBack hx (y := (⟨"com/example/ensyn/ensyn/replay/TokenCounts", "<init>", "(JJJJ)V"⟩ : MethodName)) rfl hown (mvT hZ (hw _ (List.mem_of_getElem? (i := 33) rfl))) (mvT hZ (hw _ (List.mem_of_getElem? (i := 5) rfl))) (mvT hZ (hw _ (List.mem_of_getElem? (i := 6) rfl))) (by decide) (backOf (W := 1) (rm1 l Z a0 hw [] b1 (x1 + y1) (x2 + y2) (x3 + y3) (x4 + y4) h1 n0 Z1 A1 gnb1 F1_consumed F1_produced F1_missing F1_remaining k1 k2 k3 k4 k5) hZ (hw _ (List.mem_of_getElem? (i := 6) rfl)) (hw _ (List.mem_of_getElem? (i := 3) rfl)) (by decide) (by decide)) (g := (mkF m 48 #[.val (.ref u0), .val (.ref u1)] [(.long (x4 + y4)), (.long (x3 + y3)), (.long (x2 + y2)), (.long (x1 + y1)), (.ref b1), (.ref b1)])) rfl (by rw [hml]; rfl) (Steps.refl _) (a := b1) (argsL := [(.long (x1 + y1)), (.long (x2 + y2)), (.long (x3 + y3)), (.long (x4 + y4))]) (rest := [(.ref b1)]) (lenOf pd_2 rfl) rfl (by show 2 * 0 + _ ≤ _; exact Nat.le_of_eq rfl) (hb hby d4_48) (fun _ _ => ⟨rfl, e13, (by decide : 1 + 0 ≤ _), (by decide : 4 + 0 ≤ _)⟩)
  dsimp only [Pt.U, Pt.locs, Pt.cells, Pt.slots] at X14 l14 y14 z14 st14 hQ14
  subst l14 y14 z14
  obtain ⟨rfl, N14q, K14q, EI14, FI14_consumed, FI14_produced, FI14_missing, FI14_remaining⟩ := hQ14
  have N14 := Fr.app N13 N14q
  have Z14 : n0 ≤ T14.heap.size := Nat.le_trans Z1 K14q.1
  have Kp14 := Kp1.trans K14q (fun x hx => Or.inr (by cases List.mem_singleton.mp hx; exact szb1))
  obtain ⟨fs, hr, hrun, hended, hW, hsame⟩ := X14.leave (v := some (.ref b1)) (fun h => by rw [Bd.returns] at h; cases h)
  refine ⟨_, _, ?_, hrun, hended, _, _, rfl, ?_, ⟨_, rfl⟩, hW, hsame.mono (by decide) (by decide)⟩
  · show Steps p.tables e below (s₁.setTop (mkF m 0 #[.val (.ref u0), .val (.ref u1)] [])) _
    refine st1 _ ?_
    show Steps p.tables e below (T1.setTop (mkF m 3 #[.val (.ref u0), .val (.ref u1)] [(.ref b1)])) _
    refine XS.dup X1.here hx rfl (hb hby d4_3) rfl rfl ?_
    show Steps p.tables e below (T1.setTop (mkF m 4 #[.val (.ref u0), .val (.ref u1)] [(.ref b1), (.ref b1)])) _
    refine XS.aloadN X1.here hx rfl (hb hby d4_4) rfl rfl ?_
    show Steps p.tables e below (T1.setTop (mkF m 5 #[.val (.ref u0), .val (.ref u1)] [(.ref u0), (.ref b1), (.ref b1)])) _
    refine st2 _ ?_
    show Steps p.tables e below (T2.setTop (mkF m 8 #[.val (.ref u0), .val (.ref u1)] [(.long x1), (.ref b1), (.ref b1)])) _
    refine XS.aloadN X2.here hx rfl (hb hby d4_8) rfl rfl ?_
    show Steps p.tables e below (T2.setTop (mkF m 9 #[.val (.ref u0), .val (.ref u1)] [(.ref u1), (.long x1), (.ref b1), (.ref b1)])) _
    refine st3 _ ?_
    show Steps p.tables e below (T3.setTop (mkF m 12 #[.val (.ref u0), .val (.ref u1)] [(.long y1), (.long x1), (.ref b1), (.ref b1)])) _
    refine st4 _ ?_
    show Steps p.tables e below (T4.setTop (mkF m 15 #[.val (.ref u0), .val (.ref u1)] [(.long (x1 + y1)), (.ref b1), (.ref b1)])) _
    refine XS.aloadN X4.here hx rfl (hb hby d4_15) rfl rfl ?_
    show Steps p.tables e below (T4.setTop (mkF m 16 #[.val (.ref u0), .val (.ref u1)] [(.ref u0), (.long (x1 + y1)), (.ref b1), (.ref b1)])) _
    refine st5 _ ?_
    show Steps p.tables e below (T5.setTop (mkF m 19 #[.val (.ref u0), .val (.ref u1)] [(.long x2), (.long (x1 + y1)), (.ref b1), (.ref b1)])) _
    refine XS.aloadN X5.here hx rfl (hb hby d4_19) rfl rfl ?_
    show Steps p.tables e below (T5.setTop (mkF m 20 #[.val (.ref u0), .val (.ref u1)] [(.ref u1), (.long x2), (.long (x1 + y1)), (.ref b1), (.ref b1)])) _
    refine st6 _ ?_
    show Steps p.tables e below (T6.setTop (mkF m 23 #[.val (.ref u0), .val (.ref u1)] [(.long y2), (.long x2), (.long (x1 + y1)), (.ref b1), (.ref b1)])) _
    refine st7 _ ?_
    show Steps p.tables e below (T7.setTop (mkF m 26 #[.val (.ref u0), .val (.ref u1)] [(.long (x2 + y2)), (.long (x1 + y1)), (.ref b1), (.ref b1)])) _
    refine XS.aloadN X7.here hx rfl (hb hby d4_26) rfl rfl ?_
    show Steps p.tables e below (T7.setTop (mkF m 27 #[.val (.ref u0), .val (.ref u1)] [(.ref u0), (.long (x2 + y2)), (.long (x1 + y1)), (.ref b1), (.ref b1)])) _
    refine st8 _ ?_
    show Steps p.tables e below (T8.setTop (mkF m 30 #[.val (.ref u0), .val (.ref u1)] [(.long x3), (.long (x2 + y2)), (.long (x1 + y1)), (.ref b1), (.ref b1)])) _
    refine XS.aloadN X8.here hx rfl (hb hby d4_30) rfl rfl ?_
    show Steps p.tables e below (T8.setTop (mkF m 31 #[.val (.ref u0), .val (.ref u1)] [(.ref u1), (.long x3), (.long (x2 + y2)), (.long (x1 + y1)), (.ref b1), (.ref b1)])) _
    refine st9 _ ?_
    show Steps p.tables e below (T9.setTop (mkF m 34 #[.val (.ref u0), .val (.ref u1)] [(.long y3), (.long x3), (.long (x2 + y2)), (.long (x1 + y1)), (.ref b1), (.ref b1)])) _
    refine st10 _ ?_
    show Steps p.tables e below (T10.setTop (mkF m 37 #[.val (.ref u0), .val (.ref u1)] [(.long (x3 + y3)), (.long (x2 + y2)), (.long (x1 + y1)), (.ref b1), (.ref b1)])) _
    refine XS.aloadN X10.here hx rfl (hb hby d4_37) rfl rfl ?_
    show Steps p.tables e below (T10.setTop (mkF m 38 #[.val (.ref u0), .val (.ref u1)] [(.ref u0), (.long (x3 + y3)), (.long (x2 + y2)), (.long (x1 + y1)), (.ref b1), (.ref b1)])) _
    refine st11 _ ?_
    show Steps p.tables e below (T11.setTop (mkF m 41 #[.val (.ref u0), .val (.ref u1)] [(.long x4), (.long (x3 + y3)), (.long (x2 + y2)), (.long (x1 + y1)), (.ref b1), (.ref b1)])) _
    refine XS.aloadN X11.here hx rfl (hb hby d4_41) rfl rfl ?_
    show Steps p.tables e below (T11.setTop (mkF m 42 #[.val (.ref u0), .val (.ref u1)] [(.ref u1), (.long x4), (.long (x3 + y3)), (.long (x2 + y2)), (.long (x1 + y1)), (.ref b1), (.ref b1)])) _
    refine st12 _ ?_
    show Steps p.tables e below (T12.setTop (mkF m 45 #[.val (.ref u0), .val (.ref u1)] [(.long y4), (.long x4), (.long (x3 + y3)), (.long (x2 + y2)), (.long (x1 + y1)), (.ref b1), (.ref b1)])) _
    refine st13 _ ?_
    show Steps p.tables e below (T13.setTop (mkF m 48 #[.val (.ref u0), .val (.ref u1)] [(.long (x4 + y4)), (.long (x3 + y3)), (.long (x2 + y2)), (.long (x1 + y1)), (.ref b1), (.ref b1)])) _
    refine st14.trans ?_
    show Steps p.tables e below (T14.setTop (mkF m 51 #[.val (.ref u0), .val (.ref u1)] [(.ref b1)])) _
    jvm_step X14.here [X14.here.top, hx, (hb hby d4_51), X14.method', Bd.returns, Value.isRef, FieldType.isReference]
    first | (intro acts; rw [hr _ acts rfl rfl rfl]) | rw [hr _ _ rfl rfl rfl]
    exact Steps.refl _
  · show Q4 Z u0 u1 x1 x2 x3 x4 y1 y2 y3 y4 h0 n0 _ T14.heap _
    exact ⟨b1, rfl, N14, Kp14, EI14, szb1, FI14_missing, FI14_remaining⟩
theorem pn_0 : plainName "com/example/ensyn/ensyn/replay/TokenCountsFitsPinLaw" = true := by first | (simp [plainName, overriddenIn]; done) | decide +kernel
theorem pd_3 : parseMethodDescriptor "(Lcom/example/ensyn/ensyn/replay/TokenCounts;)Lcom/example/ensyn/ensyn/replay/TokenCounts;" = some ⟨[(.object "com/example/ensyn/ensyn/replay/TokenCounts")], some (.object "com/example/ensyn/ensyn/replay/TokenCounts")⟩ := by decide +kernel
theorem pd_4 : parseMethodDescriptor "()Z" = some ⟨[], some .boolean⟩ := by decide +kernel
theorem ef_0 (m : MethodId) (q0 : Int64) (q1 : Int64) (q2 : Int64) (p3 : Int32)  : entryFrame m #[(.long q0), (.long q1), (.long q2), (.int p3)] maxLocals = mkF m 0 #[.val (.long q0), .second, .val (.long q1), .second, .val (.long q2), .second, .val (.int p3), .unset, .unset, .unset, .unset, .unset, .unset, .unset, .unset, .unset, .unset, .unset, .unset, .unset, .unset, .unset, .unset, .unset, .unset, .unset] [] := by first | (simp [entryFrame, mkF, argsToLocals, Value.category, maxLocals]; done) | rfl
def Q0 (Z : State) (q0 : Int64) (q1 : Int64) (q2 : Int64) (p3 : Int32) (h0 : Heap) (n0 : Nat) (v : Option Value) (h : Heap) (L : List Loc) : Prop := v = some (.int 1) ∧ Fr n0 L
set_option maxRecDepth 65536 in
set_option maxHeartbeats 40000000 in
theorem rm0 (l : Launch) (Z : State) (a0 : Array Value) (hw : ∀ d ∈ tables_1, d.before a0 Z = true) (ws : List Jvm.Cond) (q0 : Int64) (q1 : Int64) (q2 : Int64) (p3 : Int32) (h0 : Heap) (n0 : Nat) (Z0 : n0 ≤ h0.size) :
    MetFree l x (head1 (Jvm.Cond.code x code maxLocals ret :: ws) room_1) (fun a U => a = #[(.long q0), (.long q1), (.long q2), (.int p3)] ∧ Z.Warmed39 U.vm ∧ U.heap = h0) (fun _ _ _ _ _ => True) (fun _ U o U' => ∃ v L, o = .returned v ∧ Q0 Z q0 q1 q2 p3 h0 n0 v U'.heap L ∧ FrameEnd U o U' L room_1.cells room_1.slots) := by
  refine MetFree.of_bodySF (plainFor_of_name pn_0) hisR ?_
  intro p e s m args below meth c s₁ Bd hml0 hP hK
  obtain ⟨rfl, hZ, hh⟩ := hP
  have hx := Bd.exec
  have hby := Bd.bytes
  have hml : c.maxLocals = 26 := hml0
  have hown : s.vm.findClass "com/example/ensyn/ensyn/replay/TokenCountsFitsPinLaw" = some m.cls := findClass_of_methodNamed Bd.named
  have hnm := (name_of_methodNamed Bd.named Bd.method).1
  have X0 : Stand p l e room_1 s m #[(.long q0), (.long q1), (.long q2), (.int p3)] below meth c s₁ [] 0 0 := Stand.of_body Bd
  have e0 : s₁.heap = h0 := by rw [← hh, Bd.state]; rfl
  have N0 := Fr.nil n0
  have pre0 : ∀ t, Steps p.tables e below (s₁.setTop (mkF m 0 #[.val (.long q0), .second, .val (.long q1), .second, .val (.long q2), .second, .val (.int p3), .unset, .unset, .unset, .unset, .unset, .unset, .unset, .unset, .unset, .unset, .unset, .unset, .unset, .unset, .unset, .unset, .unset, .unset, .unset] [])) t → Steps p.tables e below (s₁.setTop (entryFrame m #[(.long q0), (.long q1), (.long q2), (.int p3)] maxLocals)) t := fun t k => castTop (ef_0 m q0 q1 q2 p3) k
  show Done p e below _ _
  refine Done.of ?_ pre0
  have J9_1 : ∀ wj : Int64, wj = (if (p3 &&& (1 : Int32)) = (0 : Int32) then (q0 &&& (2305843009213693951 : Int64)) else (0 : Int64)) → ∀ target, Steps p.tables e below (s₁.setTop (mkF m 20 #[.val (.long q0), .second, .val (.long q1), .second, .val (.long q2), .second, .val (.int p3), .val (.long (2305843009213693951 : Int64)), .second, .unset, .unset, .unset, .unset, .unset, .unset, .unset, .unset, .unset, .unset, .unset, .unset, .unset, .unset, .unset, .unset, .unset] [(.long wj)])) target → Steps p.tables e below (s₁.setTop (mkF m 9 #[.val (.long q0), .second, .val (.long q1), .second, .val (.long q2), .second, .val (.int p3), .val (.long (2305843009213693951 : Int64)), .second, .unset, .unset, .unset, .unset, .unset, .unset, .unset, .unset, .unset, .unset, .unset, .unset, .unset, .unset, .unset, .unset, .unset] [(.int (p3 &&& (1 : Int32)))])) target := by
    intro wj hw0 target kt
    by_cases hj9 : (p3 &&& (1 : Int32)) = (0 : Int32)
    · rw [if_pos hj9] at hw0
      show Steps p.tables e below (s₁.setTop (mkF m 9 #[.val (.long q0), .second, .val (.long q1), .second, .val (.long q2), .second, .val (.int p3), .val (.long (2305843009213693951 : Int64)), .second, .unset, .unset, .unset, .unset, .unset, .unset, .unset, .unset, .unset, .unset, .unset, .unset, .unset, .unset, .unset, .unset, .unset] [(.int (p3 &&& (1 : Int32)))])) _
      refine XS.ifYes X0.here hx rfl (pc0 := 9) (pc' := 16) rfl (hb hby at_9) rfl ((if0 _ _).trans (teq hj9).1) (by decide) (by decide) ?_
      show Steps p.tables e below (s₁.setTop (mkF m 16 #[.val (.long q0), .second, .val (.long q1), .second, .val (.long q2), .second, .val (.int p3), .val (.long (2305843009213693951 : Int64)), .second, .unset, .unset, .unset, .unset, .unset, .unset, .unset, .unset, .unset, .unset, .unset, .unset, .unset, .unset, .unset, .unset, .unset] [])) _
      refine XS.lloadN X0.here hx rfl (hb hby at_16) rfl ?_
      refine XS.lload X0.here hx rfl (hb hby at_17) rfl ?_
      show Steps p.tables e below (s₁.setTop (mkF m 19 #[.val (.long q0), .second, .val (.long q1), .second, .val (.long q2), .second, .val (.int p3), .val (.long (2305843009213693951 : Int64)), .second, .unset, .unset, .unset, .unset, .unset, .unset, .unset, .unset, .unset, .unset, .unset, .unset, .unset, .unset, .unset, .unset, .unset] [(.long (2305843009213693951 : Int64)), (.long q0)])) _
      refine XS.land X0.here hx rfl (hb hby at_19) rfl ?_
      rw [hw0] at kt
      exact kt
    · rw [if_neg hj9] at hw0
      show Steps p.tables e below (s₁.setTop (mkF m 9 #[.val (.long q0), .second, .val (.long q1), .second, .val (.long q2), .second, .val (.int p3), .val (.long (2305843009213693951 : Int64)), .second, .unset, .unset, .unset, .unset, .unset, .unset, .unset, .unset, .unset, .unset, .unset, .unset, .unset, .unset, .unset, .unset, .unset] [(.int (p3 &&& (1 : Int32)))])) _
      refine XS.ifNo X0.here hx rfl (hb hby at_9) rfl ((if0 _ _).trans (feq hj9).1) ?_
      show Steps p.tables e below (s₁.setTop (mkF m 12 #[.val (.long q0), .second, .val (.long q1), .second, .val (.long q2), .second, .val (.int p3), .val (.long (2305843009213693951 : Int64)), .second, .unset, .unset, .unset, .unset, .unset, .unset, .unset, .unset, .unset, .unset, .unset, .unset, .unset, .unset, .unset, .unset, .unset] [])) _
      refine XS.lconst X0.here hx rfl (hb hby at_12) ?_
      show Steps p.tables e below (s₁.setTop (mkF m 13 #[.val (.long q0), .second, .val (.long q1), .second, .val (.long q2), .second, .val (.int p3), .val (.long (2305843009213693951 : Int64)), .second, .unset, .unset, .unset, .unset, .unset, .unset, .unset, .unset, .unset, .unset, .unset, .unset, .unset, .unset, .unset, .unset, .unset] [(.long (0 : Int64))])) _
      refine XS.goto X0.here hx rfl (pc0 := 13) (pc' := 20) rfl (hb hby at_13) (by decide) (by decide) ?_
      rw [hw0] at kt
      exact kt
  obtain ⟨v2, ev2⟩ : ∃ z : Int64, z = (if (p3 &&& (1 : Int32)) = (0 : Int32) then (q0 &&& (2305843009213693951 : Int64)) else (0 : Int64)) := ⟨_, rfl⟩
  have J26_3 : ∀ wj : Int64, wj = (if (p3 &&& (2 : Int32)) = (0 : Int32) then (q1 &&& (2305843009213693951 : Int64)) else (0 : Int64)) → ∀ target, Steps p.tables e below (s₁.setTop (mkF m 37 #[.val (.long q0), .second, .val (.long q1), .second, .val (.long q2), .second, .val (.int p3), .val (.long (2305843009213693951 : Int64)), .second, .val (.long v2), .second, .unset, .unset, .unset, .unset, .unset, .unset, .unset, .unset, .unset, .unset, .unset, .unset, .unset, .unset, .unset] [(.long wj)])) target → Steps p.tables e below (s₁.setTop (mkF m 26 #[.val (.long q0), .second, .val (.long q1), .second, .val (.long q2), .second, .val (.int p3), .val (.long (2305843009213693951 : Int64)), .second, .val (.long v2), .second, .unset, .unset, .unset, .unset, .unset, .unset, .unset, .unset, .unset, .unset, .unset, .unset, .unset, .unset, .unset] [(.int (p3 &&& (2 : Int32)))])) target := by
    intro wj hw0 target kt
    by_cases hj26 : (p3 &&& (2 : Int32)) = (0 : Int32)
    · rw [if_pos hj26] at hw0
      show Steps p.tables e below (s₁.setTop (mkF m 26 #[.val (.long q0), .second, .val (.long q1), .second, .val (.long q2), .second, .val (.int p3), .val (.long (2305843009213693951 : Int64)), .second, .val (.long v2), .second, .unset, .unset, .unset, .unset, .unset, .unset, .unset, .unset, .unset, .unset, .unset, .unset, .unset, .unset, .unset] [(.int (p3 &&& (2 : Int32)))])) _
      refine XS.ifYes X0.here hx rfl (pc0 := 26) (pc' := 33) rfl (hb hby at_26) rfl ((if0 _ _).trans (teq hj26).1) (by decide) (by decide) ?_
      refine XS.lloadN X0.here hx rfl (hb hby at_33) rfl ?_
      refine XS.lload X0.here hx rfl (hb hby at_34) rfl ?_
      show Steps p.tables e below (s₁.setTop (mkF m 36 #[.val (.long q0), .second, .val (.long q1), .second, .val (.long q2), .second, .val (.int p3), .val (.long (2305843009213693951 : Int64)), .second, .val (.long v2), .second, .unset, .unset, .unset, .unset, .unset, .unset, .unset, .unset, .unset, .unset, .unset, .unset, .unset, .unset, .unset] [(.long (2305843009213693951 : Int64)), (.long q1)])) _
      refine XS.land X0.here hx rfl (hb hby at_36) rfl ?_
      rw [hw0] at kt
      exact kt
    · rw [if_neg hj26] at hw0
      show Steps p.tables e below (s₁.setTop (mkF m 26 #[.val (.long q0), .second, .val (.long q1), .second, .val (.long q2), .second, .val (.int p3), .val (.long (2305843009213693951 : Int64)), .second, .val (.long v2), .second, .unset, .unset, .unset, .unset, .unset, .unset, .unset, .unset, .unset, .unset, .unset, .unset, .unset, .unset, .unset] [(.int (p3 &&& (2 : Int32)))])) _
      refine XS.ifNo X0.here hx rfl (hb hby at_26) rfl ((if0 _ _).trans (feq hj26).1) ?_
      refine XS.lconst X0.here hx rfl (hb hby at_29) ?_
      show Steps p.tables e below (s₁.setTop (mkF m 30 #[.val (.long q0), .second, .val (.long q1), .second, .val (.long q2), .second, .val (.int p3), .val (.long (2305843009213693951 : Int64)), .second, .val (.long v2), .second, .unset, .unset, .unset, .unset, .unset, .unset, .unset, .unset, .unset, .unset, .unset, .unset, .unset, .unset, .unset] [(.long (0 : Int64))])) _
      refine XS.goto X0.here hx rfl (pc0 := 30) (pc' := 37) rfl (hb hby at_30) (by decide) (by decide) ?_
      rw [hw0] at kt
      exact kt
  obtain ⟨v4, ev4⟩ : ∃ z : Int64, z = (if (p3 &&& (2 : Int32)) = (0 : Int32) then (q1 &&& (2305843009213693951 : Int64)) else (0 : Int64)) := ⟨_, rfl⟩
  obtain ⟨v5, ev5⟩ : ∃ z : Int64, z = (q2 &&& (2305843009213693951 : Int64)) := ⟨_, rfl⟩
  obtain ⟨T6, h6, X6, e6, E6, A6, D6, -, st6⟩ := newO X0 hx hZ hown (hw _ (List.mem_of_getElem? (i := 1) rfl)) (hw _ (List.mem_of_getElem? (i := 2) rfl)) (hw _ (List.mem_of_getElem? (i := 3) rfl)) e0 (g := (mkF m 46 #[.val (.long q0), .second, .val (.long q1), .second, .val (.long q2), .second, .val (.int p3), .val (.long (2305843009213693951 : Int64)), .second, .val (.long v2), .second, .val (.long v4), .second, .val (.long v5), .second, .unset, .unset, .unset, .unset, .unset, .unset, .unset, .unset, .unset, .unset, .unset] [])) rfl (hb hby at_46) (by decide) (by decide)
  obtain ⟨b6, g6⟩ : ∃ z, z = h0.size := ⟨_, rfl⟩
  rw [← g6] at A6 D6 st6
  have gnb6 : n0 ≤ b6 := Nat.le_trans Z0 (Nat.le_of_eq g6.symm)
  have Z6 : n0 ≤ h6.size := Nat.le_trans Z0 E6.1
  have F6_consumed : Fld Z h6 b6 "com/example/ensyn/ensyn/replay/TokenCounts" "consumed" "J" (.long (0 : Int64)) := D6 (Or.inr (hw _ (List.mem_of_getElem? (i := 16) rfl))) (ty := .long) (by decide)
  have F6_produced : Fld Z h6 b6 "com/example/ensyn/ensyn/replay/TokenCounts" "produced" "J" (.long (0 : Int64)) := D6 (Or.inr (hw _ (List.mem_of_getElem? (i := 18) rfl))) (ty := .long) (by decide)
  have F6_missing : Fld Z h6 b6 "com/example/ensyn/ensyn/replay/TokenCounts" "missing" "J" (.long (0 : Int64)) := D6 (Or.inr (hw _ (List.mem_of_getElem? (i := 20) rfl))) (ty := .long) (by decide)
  have F6_remaining : Fld Z h6 b6 "com/example/ensyn/ensyn/replay/TokenCounts" "remaining" "J" (.long (0 : Int64)) := D6 (Or.inr (hw _ (List.mem_of_getElem? (i := 22) rfl))) (ty := .long) (by decide)
  have ba : own_in v2 2305843009213693951 ∧ own_in v4 2305843009213693951 ∧ own_in v5 2305843009213693951 := ⟨by rw [ev2]; exact own_mk0 _ _, by rw [ev4]; exact own_mk0 _ _, by rw [ev5]; exact own_mk _⟩
  obtain ⟨_, _, ⟨T7, L7, k7, n7⟩, -, X7, ⟨Lc7, hQ7, l7, y7, z7⟩, st7⟩ := X6.specialBack hx (y := (⟨"com/example/ensyn/ensyn/replay/TokenCounts", "<init>", "(JJJJ)V"⟩ : MethodName)) rfl hown (mvT hZ (hw _ (List.mem_of_getElem? (i := 4) rfl))) (mvT hZ (hw _ (List.mem_of_getElem? (i := 5) rfl))) (mvT hZ (hw _ (List.mem_of_getElem? (i := 6) rfl))) (by decide) (backOf (W := 1) (rm1 l Z a0 hw [] b6 (v2 + v5) (v5 + v4) v2 v4 h6 n0 Z6 A6 gnb6 F6_consumed F6_produced F6_missing F6_remaining (own_ge (own_add ba.1 ba.2.2 (by decide)).1) (own_ge (own_add ba.2.2 ba.2.1 (by decide)).1) (own_ge ba.1) (own_ge ba.2.1) (own_bal _ _ _)) hZ (hw _ (List.mem_of_getElem? (i := 6) rfl)) (hw _ (List.mem_of_getElem? (i := 3) rfl)) (by decide) (by decide)) (g := (mkF m 64 #[.val (.long q0), .second, .val (.long q1), .second, .val (.long q2), .second, .val (.int p3), .val (.long (2305843009213693951 : Int64)), .second, .val (.long v2), .second, .val (.long v4), .second, .val (.long v5), .second, .unset, .unset, .unset, .unset, .unset, .unset, .unset, .unset, .unset, .unset, .unset] [(.long v4), (.long v2), (.long (v5 + v4)), (.long (v2 + v5)), (.ref b6), (.ref b6)])) rfl (by rw [hml]; rfl) (Steps.refl _) (a := b6) (argsL := [(.long (v2 + v5)), (.long (v5 + v4)), (.long v2), (.long v4)]) (rest := [(.ref b6)]) (lenOf pd_2 rfl) rfl (by show 2 * 0 + _ ≤ _; exact Nat.le_of_eq rfl) (hb hby at_64) (fun _ _ => ⟨rfl, e6, (by decide : 1 + 0 ≤ _), (by decide : 4 + 0 ≤ _)⟩)
  dsimp only [Pt.U, Pt.locs, Pt.cells, Pt.slots] at X7 l7 y7 z7 st7 hQ7
  subst l7 y7 z7
  obtain ⟨rfl, N7q, K7q, EI7, FI7_consumed, FI7_produced, FI7_missing, FI7_remaining⟩ := hQ7
  have N7 := Fr.app N0 N7q
  have Z7 : n0 ≤ T7.heap.size := Nat.le_trans Z6 K7q.1
  have J73_8 : ∀ wj : Int64, wj = (if (p3 &&& (4 : Int32)) = (0 : Int32) then ((((p3.toUInt32 >>> ((4 : Int32) &&& 31).toUInt32).toInt32) &&& (255 : Int32)).toInt64) else (0 : Int64)) → ∀ target, Steps p.tables e below (T7.setTop (mkF m 89 #[.val (.long q0), .second, .val (.long q1), .second, .val (.long q2), .second, .val (.int p3), .val (.long (2305843009213693951 : Int64)), .second, .val (.long v2), .second, .val (.long v4), .second, .val (.long v5), .second, .val (.ref b6), .unset, .unset, .unset, .unset, .unset, .unset, .unset, .unset, .unset, .unset] [(.long wj)])) target → Steps p.tables e below (T7.setTop (mkF m 73 #[.val (.long q0), .second, .val (.long q1), .second, .val (.long q2), .second, .val (.int p3), .val (.long (2305843009213693951 : Int64)), .second, .val (.long v2), .second, .val (.long v4), .second, .val (.long v5), .second, .val (.ref b6), .unset, .unset, .unset, .unset, .unset, .unset, .unset, .unset, .unset, .unset] [(.int (p3 &&& (4 : Int32)))])) target := by
    intro wj hw0 target kt
    by_cases hj73 : (p3 &&& (4 : Int32)) = (0 : Int32)
    · rw [if_pos hj73] at hw0
      show Steps p.tables e below (T7.setTop (mkF m 73 #[.val (.long q0), .second, .val (.long q1), .second, .val (.long q2), .second, .val (.int p3), .val (.long (2305843009213693951 : Int64)), .second, .val (.long v2), .second, .val (.long v4), .second, .val (.long v5), .second, .val (.ref b6), .unset, .unset, .unset, .unset, .unset, .unset, .unset, .unset, .unset, .unset] [(.int (p3 &&& (4 : Int32)))])) _
      refine XS.ifYes X7.here hx rfl (pc0 := 73) (pc' := 80) rfl (hb hby at_73) rfl ((if0 _ _).trans (teq hj73).1) (by decide) (by decide) ?_
      refine XS.iload X7.here hx rfl (hb hby at_80) rfl ?_
      refine XS.iconst X7.here hx rfl (hb hby at_82) ?_
      show Steps p.tables e below (T7.setTop (mkF m 83 #[.val (.long q0), .second, .val (.long q1), .second, .val (.long q2), .second, .val (.int p3), .val (.long (2305843009213693951 : Int64)), .second, .val (.long v2), .second, .val (.long v4), .second, .val (.long v5), .second, .val (.ref b6), .unset, .unset, .unset, .unset, .unset, .unset, .unset, .unset, .unset, .unset] [(.int (4 : Int32)), (.int p3)])) _
      refine XS.iushr X7.here hx rfl (hb hby at_83) rfl ?_
      refine XS.sipush X7.here hx rfl (hb hby at_84) ?_
      refine XS.iand X7.here hx rfl (hb hby at_87) rfl ?_
      refine XS.i2l X7.here hx rfl (hb hby at_88) rfl ?_
      rw [hw0] at kt
      exact kt
    · rw [if_neg hj73] at hw0
      show Steps p.tables e below (T7.setTop (mkF m 73 #[.val (.long q0), .second, .val (.long q1), .second, .val (.long q2), .second, .val (.int p3), .val (.long (2305843009213693951 : Int64)), .second, .val (.long v2), .second, .val (.long v4), .second, .val (.long v5), .second, .val (.ref b6), .unset, .unset, .unset, .unset, .unset, .unset, .unset, .unset, .unset, .unset] [(.int (p3 &&& (4 : Int32)))])) _
      refine XS.ifNo X7.here hx rfl (hb hby at_73) rfl ((if0 _ _).trans (feq hj73).1) ?_
      show Steps p.tables e below (T7.setTop (mkF m 76 #[.val (.long q0), .second, .val (.long q1), .second, .val (.long q2), .second, .val (.int p3), .val (.long (2305843009213693951 : Int64)), .second, .val (.long v2), .second, .val (.long v4), .second, .val (.long v5), .second, .val (.ref b6), .unset, .unset, .unset, .unset, .unset, .unset, .unset, .unset, .unset, .unset] [])) _
      refine XS.lconst X7.here hx rfl (hb hby at_76) ?_
      show Steps p.tables e below (T7.setTop (mkF m 77 #[.val (.long q0), .second, .val (.long q1), .second, .val (.long q2), .second, .val (.int p3), .val (.long (2305843009213693951 : Int64)), .second, .val (.long v2), .second, .val (.long v4), .second, .val (.long v5), .second, .val (.ref b6), .unset, .unset, .unset, .unset, .unset, .unset, .unset, .unset, .unset, .unset] [(.long (0 : Int64))])) _
      refine XS.goto X7.here hx rfl (pc0 := 77) (pc' := 89) rfl (hb hby at_77) (by decide) (by decide) ?_
      rw [hw0] at kt
      exact kt
  obtain ⟨v9, ev9⟩ : ∃ z : Int64, z = (if (p3 &&& (4 : Int32)) = (0 : Int32) then ((((p3.toUInt32 >>> ((4 : Int32) &&& 31).toUInt32).toInt32) &&& (255 : Int32)).toInt64) else (0 : Int64)) := ⟨_, rfl⟩
  have J96_10 : ∀ wj : Int64, wj = (if (p3 &&& (8 : Int32)) = (0 : Int32) then ((((p3.toUInt32 >>> ((12 : Int32) &&& 31).toUInt32).toInt32) &&& (255 : Int32)).toInt64) else (0 : Int64)) → ∀ target, Steps p.tables e below (T7.setTop (mkF m 113 #[.val (.long q0), .second, .val (.long q1), .second, .val (.long q2), .second, .val (.int p3), .val (.long (2305843009213693951 : Int64)), .second, .val (.long v2), .second, .val (.long v4), .second, .val (.long v5), .second, .val (.ref b6), .val (.long v9), .second, .unset, .unset, .unset, .unset, .unset, .unset, .unset, .unset] [(.long wj)])) target → Steps p.tables e below (T7.setTop (mkF m 96 #[.val (.long q0), .second, .val (.long q1), .second, .val (.long q2), .second, .val (.int p3), .val (.long (2305843009213693951 : Int64)), .second, .val (.long v2), .second, .val (.long v4), .second, .val (.long v5), .second, .val (.ref b6), .val (.long v9), .second, .unset, .unset, .unset, .unset, .unset, .unset, .unset, .unset] [(.int (p3 &&& (8 : Int32)))])) target := by
    intro wj hw0 target kt
    by_cases hj96 : (p3 &&& (8 : Int32)) = (0 : Int32)
    · rw [if_pos hj96] at hw0
      show Steps p.tables e below (T7.setTop (mkF m 96 #[.val (.long q0), .second, .val (.long q1), .second, .val (.long q2), .second, .val (.int p3), .val (.long (2305843009213693951 : Int64)), .second, .val (.long v2), .second, .val (.long v4), .second, .val (.long v5), .second, .val (.ref b6), .val (.long v9), .second, .unset, .unset, .unset, .unset, .unset, .unset, .unset, .unset] [(.int (p3 &&& (8 : Int32)))])) _
      refine XS.ifYes X7.here hx rfl (pc0 := 96) (pc' := 103) rfl (hb hby at_96) rfl ((if0 _ _).trans (teq hj96).1) (by decide) (by decide) ?_
      refine XS.iload X7.here hx rfl (hb hby at_103) rfl ?_
      refine XS.bipush X7.here hx rfl (hb hby at_105) ?_
      refine XS.iushr X7.here hx rfl (hb hby at_107) rfl ?_
      show Steps p.tables e below (T7.setTop (mkF m 108 #[.val (.long q0), .second, .val (.long q1), .second, .val (.long q2), .second, .val (.int p3), .val (.long (2305843009213693951 : Int64)), .second, .val (.long v2), .second, .val (.long v4), .second, .val (.long v5), .second, .val (.ref b6), .val (.long v9), .second, .unset, .unset, .unset, .unset, .unset, .unset, .unset, .unset] [(.int ((p3.toUInt32 >>> ((12 : Int32) &&& 31).toUInt32).toInt32))])) _
      refine XS.sipush X7.here hx rfl (hb hby at_108) ?_
      refine XS.iand X7.here hx rfl (hb hby at_111) rfl ?_
      refine XS.i2l X7.here hx rfl (hb hby at_112) rfl ?_
      rw [hw0] at kt
      exact kt
    · rw [if_neg hj96] at hw0
      show Steps p.tables e below (T7.setTop (mkF m 96 #[.val (.long q0), .second, .val (.long q1), .second, .val (.long q2), .second, .val (.int p3), .val (.long (2305843009213693951 : Int64)), .second, .val (.long v2), .second, .val (.long v4), .second, .val (.long v5), .second, .val (.ref b6), .val (.long v9), .second, .unset, .unset, .unset, .unset, .unset, .unset, .unset, .unset] [(.int (p3 &&& (8 : Int32)))])) _
      refine XS.ifNo X7.here hx rfl (hb hby at_96) rfl ((if0 _ _).trans (feq hj96).1) ?_
      refine XS.lconst X7.here hx rfl (hb hby at_99) ?_
      show Steps p.tables e below (T7.setTop (mkF m 100 #[.val (.long q0), .second, .val (.long q1), .second, .val (.long q2), .second, .val (.int p3), .val (.long (2305843009213693951 : Int64)), .second, .val (.long v2), .second, .val (.long v4), .second, .val (.long v5), .second, .val (.ref b6), .val (.long v9), .second, .unset, .unset, .unset, .unset, .unset, .unset, .unset, .unset] [(.long (0 : Int64))])) _
      refine XS.goto X7.here hx rfl (pc0 := 100) (pc' := 113) rfl (hb hby at_100) (by decide) (by decide) ?_
      rw [hw0] at kt
      exact kt
  obtain ⟨v11, ev11⟩ : ∃ z : Int64, z = (if (p3 &&& (8 : Int32)) = (0 : Int32) then ((((p3.toUInt32 >>> ((12 : Int32) &&& 31).toUInt32).toInt32) &&& (255 : Int32)).toInt64) else (0 : Int64)) := ⟨_, rfl⟩
  obtain ⟨v12, ev12⟩ : ∃ z : Int64, z = ((((p3.toUInt32 >>> ((20 : Int32) &&& 31).toUInt32).toInt32) &&& (255 : Int32)).toInt64) := ⟨_, rfl⟩
  obtain ⟨T13, h13, X13, e13, E13, A13, D13, -, st13⟩ := newO X7 hx hZ hown (hw _ (List.mem_of_getElem? (i := 1) rfl)) (hw _ (List.mem_of_getElem? (i := 2) rfl)) (hw _ (List.mem_of_getElem? (i := 3) rfl)) rfl (g := (mkF m 127 #[.val (.long q0), .second, .val (.long q1), .second, .val (.long q2), .second, .val (.int p3), .val (.long (2305843009213693951 : Int64)), .second, .val (.long v2), .second, .val (.long v4), .second, .val (.long v5), .second, .val (.ref b6), .val (.long v9), .second, .val (.long v11), .second, .val (.long v12), .second, .unset, .unset, .unset, .unset] [])) rfl (hb hby at_127) (by decide) (by decide)
  obtain ⟨b13, g13⟩ : ∃ z, z = T7.heap.size := ⟨_, rfl⟩
  rw [← g13] at A13 D13 st13
  have gnb13 : n0 ≤ b13 := Nat.le_trans Z7 (Nat.le_of_eq g13.symm)
  have Z13 : n0 ≤ h13.size := Nat.le_trans Z7 E13.1
  have ne_13_1 : b6 ≠ b13 := Nat.ne_of_lt (Nat.lt_of_lt_of_le EI7.lt (Nat.le_of_eq g13.symm))
  have F13_consumed : Fld Z h13 b13 "com/example/ensyn/ensyn/replay/TokenCounts" "consumed" "J" (.long (0 : Int64)) := D13 (Or.inr (hw _ (List.mem_of_getElem? (i := 16) rfl))) (ty := .long) (by decide)
  have F13_produced : Fld Z h13 b13 "com/example/ensyn/ensyn/replay/TokenCounts" "produced" "J" (.long (0 : Int64)) := D13 (Or.inr (hw _ (List.mem_of_getElem? (i := 18) rfl))) (ty := .long) (by decide)
  have F13_missing : Fld Z h13 b13 "com/example/ensyn/ensyn/replay/TokenCounts" "missing" "J" (.long (0 : Int64)) := D13 (Or.inr (hw _ (List.mem_of_getElem? (i := 20) rfl))) (ty := .long) (by decide)
  have F13_remaining : Fld Z h13 b13 "com/example/ensyn/ensyn/replay/TokenCounts" "remaining" "J" (.long (0 : Int64)) := D13 (Or.inr (hw _ (List.mem_of_getElem? (i := 22) rfl))) (ty := .long) (by decide)
  have bb : own_in v9 255 ∧ own_in v11 255 ∧ own_in v12 255 := ⟨by rw [ev9]; exact own_sm0 _ _, by rw [ev11]; exact own_sm0 _ _, by rw [ev12]; exact own_sm _⟩
  obtain ⟨_, _, ⟨T14, L14, k14, n14⟩, -, X14, ⟨Lc14, hQ14, l14, y14, z14⟩, st14⟩ := X13.specialBack hx (y := (⟨"com/example/ensyn/ensyn/replay/TokenCounts", "<init>", "(JJJJ)V"⟩ : MethodName)) rfl hown (mvT hZ (hw _ (List.mem_of_getElem? (i := 4) rfl))) (mvT hZ (hw _ (List.mem_of_getElem? (i := 5) rfl))) (mvT hZ (hw _ (List.mem_of_getElem? (i := 6) rfl))) (by decide) (backOf (W := 1) (rm1 l Z a0 hw [] b13 (v9 + v12) (v12 + v11) v9 v11 h13 n0 Z13 A13 gnb13 F13_consumed F13_produced F13_missing F13_remaining (own_ge (own_add bb.1 bb.2.2 (by decide)).1) (own_ge (own_add bb.2.2 bb.2.1 (by decide)).1) (own_ge bb.1) (own_ge bb.2.1) (own_bal _ _ _)) hZ (hw _ (List.mem_of_getElem? (i := 6) rfl)) (hw _ (List.mem_of_getElem? (i := 3) rfl)) (by decide) (by decide)) (g := (mkF m 145 #[.val (.long q0), .second, .val (.long q1), .second, .val (.long q2), .second, .val (.int p3), .val (.long (2305843009213693951 : Int64)), .second, .val (.long v2), .second, .val (.long v4), .second, .val (.long v5), .second, .val (.ref b6), .val (.long v9), .second, .val (.long v11), .second, .val (.long v12), .second, .unset, .unset, .unset, .unset] [(.long v11), (.long v9), (.long (v12 + v11)), (.long (v9 + v12)), (.ref b13), (.ref b13)])) rfl (by rw [hml]; rfl) (Steps.refl _) (a := b13) (argsL := [(.long (v9 + v12)), (.long (v12 + v11)), (.long v9), (.long v11)]) (rest := [(.ref b13)]) (lenOf pd_2 rfl) rfl (by show 2 * 0 + _ ≤ _; exact Nat.le_of_eq rfl) (hb hby at_145) (fun _ _ => ⟨rfl, e13, (by decide : 2 + 0 ≤ _), (by decide : 8 + 0 ≤ _)⟩)
  dsimp only [Pt.U, Pt.locs, Pt.cells, Pt.slots] at X14 l14 y14 z14 st14 hQ14
  subst l14 y14 z14
  obtain ⟨rfl, N14q, K14q, EI14, FI14_consumed, FI14_produced, FI14_missing, FI14_remaining⟩ := hQ14
  have N14 := Fr.app N7 N14q
  have Z14 : n0 ≤ T14.heap.size := Nat.le_trans Z13 K14q.1
  have J154_15 : ∀ wj : Int32, wj = (if v2 = (0 : Int64) then (if v4 = (0 : Int64) then (1 : Int32) else (0 : Int32)) else (0 : Int32)) → ∀ target, Steps p.tables e below (T14.setTop (mkF m 169 #[.val (.long q0), .second, .val (.long q1), .second, .val (.long q2), .second, .val (.int p3), .val (.long (2305843009213693951 : Int64)), .second, .val (.long v2), .second, .val (.long v4), .second, .val (.long v5), .second, .val (.ref b6), .val (.long v9), .second, .val (.long v11), .second, .val (.long v12), .second, .val (.ref b13), .unset, .unset, .unset] [(.int wj)])) target → Steps p.tables e below (T14.setTop (mkF m 154 #[.val (.long q0), .second, .val (.long q1), .second, .val (.long q2), .second, .val (.int p3), .val (.long (2305843009213693951 : Int64)), .second, .val (.long v2), .second, .val (.long v4), .second, .val (.long v5), .second, .val (.ref b6), .val (.long v9), .second, .val (.long v11), .second, .val (.long v12), .second, .val (.ref b13), .unset, .unset, .unset] [(.int (lcmpW v2 (0 : Int64)))])) target := by
    intro wj hw0 target kt
    by_cases hj154 : v2 = (0 : Int64)
    · rw [if_pos hj154] at hw0
      show Steps p.tables e below (T14.setTop (mkF m 154 #[.val (.long q0), .second, .val (.long q1), .second, .val (.long q2), .second, .val (.int p3), .val (.long (2305843009213693951 : Int64)), .second, .val (.long v2), .second, .val (.long v4), .second, .val (.long v5), .second, .val (.ref b6), .val (.long v9), .second, .val (.long v11), .second, .val (.long v12), .second, .val (.ref b13), .unset, .unset, .unset] [(.int (lcmpW v2 (0 : Int64)))])) _
      refine XS.ifNo X14.here hx rfl (hb hby at_154) rfl ((if0 _ _).trans (teq ((lw_eq v2 (0 : Int64)).mpr hj154)).2) ?_
      refine XS.lload X14.here hx rfl (hb hby at_157) rfl ?_
      show Steps p.tables e below (T14.setTop (mkF m 159 #[.val (.long q0), .second, .val (.long q1), .second, .val (.long q2), .second, .val (.int p3), .val (.long (2305843009213693951 : Int64)), .second, .val (.long v2), .second, .val (.long v4), .second, .val (.long v5), .second, .val (.ref b6), .val (.long v9), .second, .val (.long v11), .second, .val (.long v12), .second, .val (.ref b13), .unset, .unset, .unset] [(.long v4)])) _
      refine XS.lconst X14.here hx rfl (hb hby at_159) ?_
      refine XS.lcmp X14.here hx rfl (hb hby at_160) rfl ?_
      by_cases hj161 : v4 = (0 : Int64)
      · rw [if_pos hj161] at hw0
        show Steps p.tables e below (T14.setTop (mkF m 161 #[.val (.long q0), .second, .val (.long q1), .second, .val (.long q2), .second, .val (.int p3), .val (.long (2305843009213693951 : Int64)), .second, .val (.long v2), .second, .val (.long v4), .second, .val (.long v5), .second, .val (.ref b6), .val (.long v9), .second, .val (.long v11), .second, .val (.long v12), .second, .val (.ref b13), .unset, .unset, .unset] [(.int (lcmpW v4 (0 : Int64)))])) _
        refine XS.ifNo X14.here hx rfl (hb hby at_161) rfl ((if0 _ _).trans (teq ((lw_eq v4 (0 : Int64)).mpr hj161)).2) ?_
        refine XS.iconst X14.here hx rfl (hb hby at_164) ?_
        show Steps p.tables e below (T14.setTop (mkF m 165 #[.val (.long q0), .second, .val (.long q1), .second, .val (.long q2), .second, .val (.int p3), .val (.long (2305843009213693951 : Int64)), .second, .val (.long v2), .second, .val (.long v4), .second, .val (.long v5), .second, .val (.ref b6), .val (.long v9), .second, .val (.long v11), .second, .val (.long v12), .second, .val (.ref b13), .unset, .unset, .unset] [(.int (1 : Int32))])) _
        refine XS.goto X14.here hx rfl (pc0 := 165) (pc' := 169) rfl (hb hby at_165) (by decide) (by decide) ?_
        rw [hw0] at kt
        exact kt
      · rw [if_neg hj161] at hw0
        show Steps p.tables e below (T14.setTop (mkF m 161 #[.val (.long q0), .second, .val (.long q1), .second, .val (.long q2), .second, .val (.int p3), .val (.long (2305843009213693951 : Int64)), .second, .val (.long v2), .second, .val (.long v4), .second, .val (.long v5), .second, .val (.ref b6), .val (.long v9), .second, .val (.long v11), .second, .val (.long v12), .second, .val (.ref b13), .unset, .unset, .unset] [(.int (lcmpW v4 (0 : Int64)))])) _
        refine XS.ifYes X14.here hx rfl (pc0 := 161) (pc' := 168) rfl (hb hby at_161) rfl ((if0 _ _).trans (feq (fun q => hj161 ((lw_eq v4 (0 : Int64)).mp q))).2) (by decide) (by decide) ?_
        refine XS.iconst X14.here hx rfl (hb hby at_168) ?_
        rw [hw0] at kt
        exact kt
    · rw [if_neg hj154] at hw0
      show Steps p.tables e below (T14.setTop (mkF m 154 #[.val (.long q0), .second, .val (.long q1), .second, .val (.long q2), .second, .val (.int p3), .val (.long (2305843009213693951 : Int64)), .second, .val (.long v2), .second, .val (.long v4), .second, .val (.long v5), .second, .val (.ref b6), .val (.long v9), .second, .val (.long v11), .second, .val (.long v12), .second, .val (.ref b13), .unset, .unset, .unset] [(.int (lcmpW v2 (0 : Int64)))])) _
      refine XS.ifYes X14.here hx rfl (pc0 := 154) (pc' := 168) rfl (hb hby at_154) rfl ((if0 _ _).trans (feq (fun q => hj154 ((lw_eq v2 (0 : Int64)).mp q))).2) (by decide) (by decide) ?_
      show Steps p.tables e below (T14.setTop (mkF m 168 #[.val (.long q0), .second, .val (.long q1), .second, .val (.long q2), .second, .val (.int p3), .val (.long (2305843009213693951 : Int64)), .second, .val (.long v2), .second, .val (.long v4), .second, .val (.long v5), .second, .val (.ref b6), .val (.long v9), .second, .val (.long v11), .second, .val (.long v12), .second, .val (.ref b13), .unset, .unset, .unset] [])) _
      refine XS.iconst X14.here hx rfl (hb hby at_168) ?_
      rw [hw0] at kt
      exact kt
  have J175_16 : ∀ wj : Int32, wj = (if v9 = (0 : Int64) then (if v11 = (0 : Int64) then (1 : Int32) else (0 : Int32)) else (0 : Int32)) → ∀ target, Steps p.tables e below (T14.setTop (mkF m 190 #[.val (.long q0), .second, .val (.long q1), .second, .val (.long q2), .second, .val (.int p3), .val (.long (2305843009213693951 : Int64)), .second, .val (.long v2), .second, .val (.long v4), .second, .val (.long v5), .second, .val (.ref b6), .val (.long v9), .second, .val (.long v11), .second, .val (.long v12), .second, .val (.ref b13), .val (.int (if v2 = (0 : Int64) then (if v4 = (0 : Int64) then (1 : Int32) else (0 : Int32)) else (0 : Int32))), .unset, .unset] [(.int wj)])) target → Steps p.tables e below (T14.setTop (mkF m 175 #[.val (.long q0), .second, .val (.long q1), .second, .val (.long q2), .second, .val (.int p3), .val (.long (2305843009213693951 : Int64)), .second, .val (.long v2), .second, .val (.long v4), .second, .val (.long v5), .second, .val (.ref b6), .val (.long v9), .second, .val (.long v11), .second, .val (.long v12), .second, .val (.ref b13), .val (.int (if v2 = (0 : Int64) then (if v4 = (0 : Int64) then (1 : Int32) else (0 : Int32)) else (0 : Int32))), .unset, .unset] [(.int (lcmpW v9 (0 : Int64)))])) target := by
    intro wj hw0 target kt
    by_cases hj175 : v9 = (0 : Int64)
    · rw [if_pos hj175] at hw0
      show Steps p.tables e below (T14.setTop (mkF m 175 #[.val (.long q0), .second, .val (.long q1), .second, .val (.long q2), .second, .val (.int p3), .val (.long (2305843009213693951 : Int64)), .second, .val (.long v2), .second, .val (.long v4), .second, .val (.long v5), .second, .val (.ref b6), .val (.long v9), .second, .val (.long v11), .second, .val (.long v12), .second, .val (.ref b13), .val (.int (if v2 = (0 : Int64) then (if v4 = (0 : Int64) then (1 : Int32) else (0 : Int32)) else (0 : Int32))), .unset, .unset] [(.int (lcmpW v9 (0 : Int64)))])) _
      refine XS.ifNo X14.here hx rfl (hb hby at_175) rfl ((if0 _ _).trans (teq ((lw_eq v9 (0 : Int64)).mpr hj175)).2) ?_
      refine XS.lload X14.here hx rfl (hb hby at_178) rfl ?_
      refine XS.lconst X14.here hx rfl (hb hby at_180) ?_
      refine XS.lcmp X14.here hx rfl (hb hby at_181) rfl ?_
      by_cases hj182 : v11 = (0 : Int64)
      · rw [if_pos hj182] at hw0
        show Steps p.tables e below (T14.setTop (mkF m 182 #[.val (.long q0), .second, .val (.long q1), .second, .val (.long q2), .second, .val (.int p3), .val (.long (2305843009213693951 : Int64)), .second, .val (.long v2), .second, .val (.long v4), .second, .val (.long v5), .second, .val (.ref b6), .val (.long v9), .second, .val (.long v11), .second, .val (.long v12), .second, .val (.ref b13), .val (.int (if v2 = (0 : Int64) then (if v4 = (0 : Int64) then (1 : Int32) else (0 : Int32)) else (0 : Int32))), .unset, .unset] [(.int (lcmpW v11 (0 : Int64)))])) _
        refine XS.ifNo X14.here hx rfl (hb hby at_182) rfl ((if0 _ _).trans (teq ((lw_eq v11 (0 : Int64)).mpr hj182)).2) ?_
        show Steps p.tables e below (T14.setTop (mkF m 185 #[.val (.long q0), .second, .val (.long q1), .second, .val (.long q2), .second, .val (.int p3), .val (.long (2305843009213693951 : Int64)), .second, .val (.long v2), .second, .val (.long v4), .second, .val (.long v5), .second, .val (.ref b6), .val (.long v9), .second, .val (.long v11), .second, .val (.long v12), .second, .val (.ref b13), .val (.int (if v2 = (0 : Int64) then (if v4 = (0 : Int64) then (1 : Int32) else (0 : Int32)) else (0 : Int32))), .unset, .unset] [])) _
        refine XS.iconst X14.here hx rfl (hb hby at_185) ?_
        show Steps p.tables e below (T14.setTop (mkF m 186 #[.val (.long q0), .second, .val (.long q1), .second, .val (.long q2), .second, .val (.int p3), .val (.long (2305843009213693951 : Int64)), .second, .val (.long v2), .second, .val (.long v4), .second, .val (.long v5), .second, .val (.ref b6), .val (.long v9), .second, .val (.long v11), .second, .val (.long v12), .second, .val (.ref b13), .val (.int (if v2 = (0 : Int64) then (if v4 = (0 : Int64) then (1 : Int32) else (0 : Int32)) else (0 : Int32))), .unset, .unset] [(.int (1 : Int32))])) _
        refine XS.goto X14.here hx rfl (pc0 := 186) (pc' := 190) rfl (hb hby at_186) (by decide) (by decide) ?_
        rw [hw0] at kt
        exact kt
      · rw [if_neg hj182] at hw0
        show Steps p.tables e below (T14.setTop (mkF m 182 #[.val (.long q0), .second, .val (.long q1), .second, .val (.long q2), .second, .val (.int p3), .val (.long (2305843009213693951 : Int64)), .second, .val (.long v2), .second, .val (.long v4), .second, .val (.long v5), .second, .val (.ref b6), .val (.long v9), .second, .val (.long v11), .second, .val (.long v12), .second, .val (.ref b13), .val (.int (if v2 = (0 : Int64) then (if v4 = (0 : Int64) then (1 : Int32) else (0 : Int32)) else (0 : Int32))), .unset, .unset] [(.int (lcmpW v11 (0 : Int64)))])) _
        refine XS.ifYes X14.here hx rfl (pc0 := 182) (pc' := 189) rfl (hb hby at_182) rfl ((if0 _ _).trans (feq (fun q => hj182 ((lw_eq v11 (0 : Int64)).mp q))).2) (by decide) (by decide) ?_
        refine XS.iconst X14.here hx rfl (hb hby at_189) ?_
        rw [hw0] at kt
        exact kt
    · rw [if_neg hj175] at hw0
      show Steps p.tables e below (T14.setTop (mkF m 175 #[.val (.long q0), .second, .val (.long q1), .second, .val (.long q2), .second, .val (.int p3), .val (.long (2305843009213693951 : Int64)), .second, .val (.long v2), .second, .val (.long v4), .second, .val (.long v5), .second, .val (.ref b6), .val (.long v9), .second, .val (.long v11), .second, .val (.long v12), .second, .val (.ref b13), .val (.int (if v2 = (0 : Int64) then (if v4 = (0 : Int64) then (1 : Int32) else (0 : Int32)) else (0 : Int32))), .unset, .unset] [(.int (lcmpW v9 (0 : Int64)))])) _
      refine XS.ifYes X14.here hx rfl (pc0 := 175) (pc' := 189) rfl (hb hby at_175) rfl ((if0 _ _).trans (feq (fun q => hj175 ((lw_eq v9 (0 : Int64)).mp q))).2) (by decide) (by decide) ?_
      refine XS.iconst X14.here hx rfl (hb hby at_189) ?_
      rw [hw0] at kt
      exact kt
  have hP := own_plus ba.1 ba.2.1 ba.2.2 bb.1 bb.2.1 bb.2.2
  obtain ⟨cq17, kq17, q17a, q17b, q17c⟩ := isOf hZ rfl ((EI7.ext E13).keep K14q)
  obtain ⟨_, _, ⟨T17, L17, k17, n17⟩, -, X17, ⟨Lc17, hQ17, l17, y17, z17⟩, st17⟩ := X14.virtualBack hx (y := (⟨"com/example/ensyn/ensyn/replay/TokenCounts", "plus", "(Lcom/example/ensyn/ensyn/replay/TokenCounts;)Lcom/example/ensyn/ensyn/replay/TokenCounts;"⟩ : MethodName)) (z := (⟨"com/example/ensyn/ensyn/replay/TokenCounts", "plus", "(Lcom/example/ensyn/ensyn/replay/TokenCounts;)Lcom/example/ensyn/ensyn/replay/TokenCounts;"⟩ : MethodName)) hown (mvT hZ (hw _ (List.mem_of_getElem? (i := 23) rfl))) (mvT hZ (hw _ (List.mem_of_getElem? (i := 24) rfl))) (notFace_of_selects (args := #[]) (mvT hZ (hw _ (List.mem_of_getElem? (i := 26) rfl)))) (mvT hZ (hw _ (List.mem_of_getElem? (i := 26) rfl))) (mvT hZ (hw _ (List.mem_of_getElem? (i := 25) rfl))) (by decide) (backOf (W := 0) (rm4 l Z a0 hw [] b6 b13 (v2 + v5) (v5 + v4) v2 v4 (v9 + v12) (v12 + v11) v9 v11 T14.heap n0 Z14 ((FI7_consumed.ext E13).keep K14q (fun hq => ne_13_1 (List.mem_singleton.mp hq))) ((FI7_produced.ext E13).keep K14q (fun hq => ne_13_1 (List.mem_singleton.mp hq))) ((FI7_missing.ext E13).keep K14q (fun hq => ne_13_1 (List.mem_singleton.mp hq))) ((FI7_remaining.ext E13).keep K14q (fun hq => ne_13_1 (List.mem_singleton.mp hq))) FI14_consumed FI14_produced FI14_missing FI14_remaining hP.1 hP.2.1 hP.2.2.1 hP.2.2.2.1 hP.2.2.2.2.1 hP.2.2.2.2.2.1 hP.2.2.2.2.2.2.1 hP.2.2.2.2.2.2.2.1 hP.2.2.2.2.2.2.2.2) hZ (hw _ (List.mem_of_getElem? (i := 27) rfl)) (hw _ (List.mem_of_getElem? (i := 3) rfl)) (by decide) (by decide)) q17a q17c (g := (mkF m 196 #[.val (.long q0), .second, .val (.long q1), .second, .val (.long q2), .second, .val (.int p3), .val (.long (2305843009213693951 : Int64)), .second, .val (.long v2), .second, .val (.long v4), .second, .val (.long v5), .second, .val (.ref b6), .val (.long v9), .second, .val (.long v11), .second, .val (.long v12), .second, .val (.ref b13), .val (.int (if v2 = (0 : Int64) then (if v4 = (0 : Int64) then (1 : Int32) else (0 : Int32)) else (0 : Int32))), .val (.int (if v9 = (0 : Int64) then (if v11 = (0 : Int64) then (1 : Int32) else (0 : Int32)) else (0 : Int32))), .unset] [(.ref b13), (.ref b6)])) rfl (by rw [hml]; rfl) (Steps.refl _) (argsL := [(.ref b13)]) (rest := []) (lenOf pd_3 rfl) rfl (by show 2 * 0 + _ ≤ _; exact Nat.le_of_eq rfl) (hb hby at_196) (fun _ _ => ⟨rfl, rfl, (by decide : 2 + 1 ≤ _), (by decide : 8 + 4 ≤ _)⟩)
  dsimp only [Pt.U, Pt.locs, Pt.cells, Pt.slots] at X17 l17 y17 z17 st17 hQ17
  subst l17 y17 z17
  obtain ⟨b17, rfl, N17q, K17q, EI17, szb17, FI17_missing, FI17_remaining⟩ := hQ17
  have N17 := Fr.app N14 N17q
  have Z17 : n0 ≤ T17.heap.size := Nat.le_trans Z14 K17q.1
  obtain ⟨cq18, kq18, q18a, q18b, q18c⟩ := isOf hZ rfl (((EI7.ext E13).keep K14q).keep K17q)
  obtain ⟨_, _, ⟨T18, L18, k18, n18⟩, -, X18, ⟨Lc18, hQ18, l18, y18, z18⟩, st18⟩ := X17.virtualBack hx (y := (⟨"com/example/ensyn/ensyn/replay/TokenCounts", "fits", "()Z"⟩ : MethodName)) (z := (⟨"com/example/ensyn/ensyn/replay/TokenCounts", "fits", "()Z"⟩ : MethodName)) hown (mvT hZ (hw _ (List.mem_of_getElem? (i := 34) rfl))) (mvT hZ (hw _ (List.mem_of_getElem? (i := 35) rfl))) (notFace_of_selects (args := #[]) (mvT hZ (hw _ (List.mem_of_getElem? (i := 37) rfl)))) (mvT hZ (hw _ (List.mem_of_getElem? (i := 37) rfl))) (mvT hZ (hw _ (List.mem_of_getElem? (i := 36) rfl))) (by decide) (backOf (W := 0) (rm6 l Z a0 hw [] b6 v2 v4 T17.heap n0 Z17 (((FI7_missing.ext E13).keep K14q (fun hq => ne_13_1 (List.mem_singleton.mp hq))).keep K17q (by simp)) (((FI7_remaining.ext E13).keep K14q (fun hq => ne_13_1 (List.mem_singleton.mp hq))).keep K17q (by simp))) hZ (hw _ (List.mem_of_getElem? (i := 38) rfl)) (hw _ (List.mem_of_getElem? (i := 3) rfl)) (by decide) (by decide)) q18a q18c (g := (mkF m 203 #[.val (.long q0), .second, .val (.long q1), .second, .val (.long q2), .second, .val (.int p3), .val (.long (2305843009213693951 : Int64)), .second, .val (.long v2), .second, .val (.long v4), .second, .val (.long v5), .second, .val (.ref b6), .val (.long v9), .second, .val (.long v11), .second, .val (.long v12), .second, .val (.ref b13), .val (.int (if v2 = (0 : Int64) then (if v4 = (0 : Int64) then (1 : Int32) else (0 : Int32)) else (0 : Int32))), .val (.int (if v9 = (0 : Int64) then (if v11 = (0 : Int64) then (1 : Int32) else (0 : Int32)) else (0 : Int32))), .val (.ref b17)] [(.ref b6)])) rfl (by rw [hml]; rfl) (Steps.refl _) (argsL := []) (rest := []) (lenOf pd_4 rfl) rfl (by show 2 * 0 + _ ≤ _; exact Nat.le_of_eq rfl) (hb hby at_203) (fun _ _ => ⟨rfl, rfl, (by decide : 3 + 0 ≤ _), (by decide : 12 + 0 ≤ _)⟩)
  dsimp only [Pt.U, Pt.locs, Pt.cells, Pt.slots] at X18 l18 y18 z18 st18 hQ18
  subst l18 y18 z18
  obtain ⟨rfl, N18q, e18⟩ := hQ18
  have N18 := Fr.app N17 N18q
  obtain ⟨cq19, kq19, q19a, q19b, q19c⟩ := isOf hZ e18 (EI14.keep K17q)
  obtain ⟨_, _, ⟨T19, L19, k19, n19⟩, -, X19, ⟨Lc19, hQ19, l19, y19, z19⟩, st19⟩ := X18.virtualBack hx (y := (⟨"com/example/ensyn/ensyn/replay/TokenCounts", "fits", "()Z"⟩ : MethodName)) (z := (⟨"com/example/ensyn/ensyn/replay/TokenCounts", "fits", "()Z"⟩ : MethodName)) hown (mvT hZ (hw _ (List.mem_of_getElem? (i := 34) rfl))) (mvT hZ (hw _ (List.mem_of_getElem? (i := 35) rfl))) (notFace_of_selects (args := #[]) (mvT hZ (hw _ (List.mem_of_getElem? (i := 37) rfl)))) (mvT hZ (hw _ (List.mem_of_getElem? (i := 37) rfl))) (mvT hZ (hw _ (List.mem_of_getElem? (i := 36) rfl))) (by decide) (backOf (W := 0) (rm6 l Z a0 hw [] b13 v9 v11 T17.heap n0 Z17 (FI14_missing.keep K17q (by simp)) (FI14_remaining.keep K17q (by simp))) hZ (hw _ (List.mem_of_getElem? (i := 38) rfl)) (hw _ (List.mem_of_getElem? (i := 3) rfl)) (by decide) (by decide)) q19a q19c (g := (mkF m 213 #[.val (.long q0), .second, .val (.long q1), .second, .val (.long q2), .second, .val (.int p3), .val (.long (2305843009213693951 : Int64)), .second, .val (.long v2), .second, .val (.long v4), .second, .val (.long v5), .second, .val (.ref b6), .val (.long v9), .second, .val (.long v11), .second, .val (.long v12), .second, .val (.ref b13), .val (.int (if v2 = (0 : Int64) then (if v4 = (0 : Int64) then (1 : Int32) else (0 : Int32)) else (0 : Int32))), .val (.int (if v9 = (0 : Int64) then (if v11 = (0 : Int64) then (1 : Int32) else (0 : Int32)) else (0 : Int32))), .val (.ref b17)] [(.ref b13)])) rfl (by rw [hml]; rfl) (Steps.refl _) (argsL := []) (rest := []) (lenOf pd_4 rfl) rfl (by show 2 * 0 + _ ≤ _; exact Nat.le_of_eq rfl) (hb hby at_213) (fun _ _ => ⟨rfl, e18, (by decide : 3 + 0 ≤ _), (by decide : 12 + 0 ≤ _)⟩)
  dsimp only [Pt.U, Pt.locs, Pt.cells, Pt.slots] at X19 l19 y19 z19 st19 hQ19
  subst l19 y19 z19
  obtain ⟨rfl, N19q, e19⟩ := hQ19
  have N19 := Fr.app N18 N19q
  obtain ⟨cq20, kq20, q20a, q20b, q20c⟩ := isOf hZ e19 EI17
  obtain ⟨_, _, ⟨T20, L20, k20, n20⟩, -, X20, ⟨Lc20, hQ20, l20, y20, z20⟩, st20⟩ := X19.virtualBack hx (y := (⟨"com/example/ensyn/ensyn/replay/TokenCounts", "fits", "()Z"⟩ : MethodName)) (z := (⟨"com/example/ensyn/ensyn/replay/TokenCounts", "fits", "()Z"⟩ : MethodName)) hown (mvT hZ (hw _ (List.mem_of_getElem? (i := 34) rfl))) (mvT hZ (hw _ (List.mem_of_getElem? (i := 35) rfl))) (notFace_of_selects (args := #[]) (mvT hZ (hw _ (List.mem_of_getElem? (i := 37) rfl)))) (mvT hZ (hw _ (List.mem_of_getElem? (i := 37) rfl))) (mvT hZ (hw _ (List.mem_of_getElem? (i := 36) rfl))) (by decide) (backOf (W := 0) (rm6 l Z a0 hw [] b17 (v2 + v9) (v4 + v11) T17.heap n0 Z17 FI17_missing FI17_remaining) hZ (hw _ (List.mem_of_getElem? (i := 38) rfl)) (hw _ (List.mem_of_getElem? (i := 3) rfl)) (by decide) (by decide)) q20a q20c (g := (mkF m 223 #[.val (.long q0), .second, .val (.long q1), .second, .val (.long q2), .second, .val (.int p3), .val (.long (2305843009213693951 : Int64)), .second, .val (.long v2), .second, .val (.long v4), .second, .val (.long v5), .second, .val (.ref b6), .val (.long v9), .second, .val (.long v11), .second, .val (.long v12), .second, .val (.ref b13), .val (.int (if v2 = (0 : Int64) then (if v4 = (0 : Int64) then (1 : Int32) else (0 : Int32)) else (0 : Int32))), .val (.int (if v9 = (0 : Int64) then (if v11 = (0 : Int64) then (1 : Int32) else (0 : Int32)) else (0 : Int32))), .val (.ref b17)] [(.ref b17)])) rfl (by rw [hml]; rfl) (Steps.refl _) (argsL := []) (rest := []) (lenOf pd_4 rfl) rfl (by show 2 * 0 + _ ≤ _; exact Nat.le_of_eq rfl) (hb hby at_223) (fun _ _ => ⟨rfl, e19, (by decide : 3 + 0 ≤ _), (by decide : 12 + 0 ≤ _)⟩)
  dsimp only [Pt.U, Pt.locs, Pt.cells, Pt.slots] at X20 l20 y20 z20 st20 hQ20
  subst l20 y20 z20
  obtain ⟨rfl, N20q, e20⟩ := hQ20
  have N20 := Fr.app N19 N20q
  have J228_21 : ∀ wj : Int32, wj = (if (if v2 = (0 : Int64) then (if v4 = (0 : Int64) then (1 : Int32) else (0 : Int32)) else (0 : Int32)) = (0 : Int32) then (0 : Int32) else (if (if v9 = (0 : Int64) then (if v11 = (0 : Int64) then (1 : Int32) else (0 : Int32)) else (0 : Int32)) = (0 : Int32) then (0 : Int32) else (1 : Int32))) → ∀ target, Steps p.tables e below (T20.setTop (mkF m 241 #[.val (.long q0), .second, .val (.long q1), .second, .val (.long q2), .second, .val (.int p3), .val (.long (2305843009213693951 : Int64)), .second, .val (.long v2), .second, .val (.long v4), .second, .val (.long v5), .second, .val (.ref b6), .val (.long v9), .second, .val (.long v11), .second, .val (.long v12), .second, .val (.ref b13), .val (.int (if v2 = (0 : Int64) then (if v4 = (0 : Int64) then (1 : Int32) else (0 : Int32)) else (0 : Int32))), .val (.int (if v9 = (0 : Int64) then (if v11 = (0 : Int64) then (1 : Int32) else (0 : Int32)) else (0 : Int32))), .val (.ref b17)] [(.int wj), (.int (if (v2 + v9) = (0 : Int64) then (if (v4 + v11) = (0 : Int64) then (1 : Int32) else (0 : Int32)) else (0 : Int32)))])) target → Steps p.tables e below (T20.setTop (mkF m 228 #[.val (.long q0), .second, .val (.long q1), .second, .val (.long q2), .second, .val (.int p3), .val (.long (2305843009213693951 : Int64)), .second, .val (.long v2), .second, .val (.long v4), .second, .val (.long v5), .second, .val (.ref b6), .val (.long v9), .second, .val (.long v11), .second, .val (.long v12), .second, .val (.ref b13), .val (.int (if v2 = (0 : Int64) then (if v4 = (0 : Int64) then (1 : Int32) else (0 : Int32)) else (0 : Int32))), .val (.int (if v9 = (0 : Int64) then (if v11 = (0 : Int64) then (1 : Int32) else (0 : Int32)) else (0 : Int32))), .val (.ref b17)] [(.int (if v2 = (0 : Int64) then (if v4 = (0 : Int64) then (1 : Int32) else (0 : Int32)) else (0 : Int32))), (.int (if (v2 + v9) = (0 : Int64) then (if (v4 + v11) = (0 : Int64) then (1 : Int32) else (0 : Int32)) else (0 : Int32)))])) target := by
    intro wj hw0 target kt
    by_cases hj228 : (if v2 = (0 : Int64) then (if v4 = (0 : Int64) then (1 : Int32) else (0 : Int32)) else (0 : Int32)) = (0 : Int32)
    · rw [if_pos hj228] at hw0
      show Steps p.tables e below (T20.setTop (mkF m 228 #[.val (.long q0), .second, .val (.long q1), .second, .val (.long q2), .second, .val (.int p3), .val (.long (2305843009213693951 : Int64)), .second, .val (.long v2), .second, .val (.long v4), .second, .val (.long v5), .second, .val (.ref b6), .val (.long v9), .second, .val (.long v11), .second, .val (.long v12), .second, .val (.ref b13), .val (.int (if v2 = (0 : Int64) then (if v4 = (0 : Int64) then (1 : Int32) else (0 : Int32)) else (0 : Int32))), .val (.int (if v9 = (0 : Int64) then (if v11 = (0 : Int64) then (1 : Int32) else (0 : Int32)) else (0 : Int32))), .val (.ref b17)] [(.int (if v2 = (0 : Int64) then (if v4 = (0 : Int64) then (1 : Int32) else (0 : Int32)) else (0 : Int32))), (.int (if (v2 + v9) = (0 : Int64) then (if (v4 + v11) = (0 : Int64) then (1 : Int32) else (0 : Int32)) else (0 : Int32)))])) _
      refine XS.ifYes X20.here hx rfl (pc0 := 228) (pc' := 240) rfl (hb hby at_228) rfl ((if0 _ _).trans (teq hj228).1) (by decide) (by decide) ?_
      refine XS.iconst X20.here hx rfl (hb hby at_240) ?_
      rw [hw0] at kt
      exact kt
    · rw [if_neg hj228] at hw0
      show Steps p.tables e below (T20.setTop (mkF m 228 #[.val (.long q0), .second, .val (.long q1), .second, .val (.long q2), .second, .val (.int p3), .val (.long (2305843009213693951 : Int64)), .second, .val (.long v2), .second, .val (.long v4), .second, .val (.long v5), .second, .val (.ref b6), .val (.long v9), .second, .val (.long v11), .second, .val (.long v12), .second, .val (.ref b13), .val (.int (if v2 = (0 : Int64) then (if v4 = (0 : Int64) then (1 : Int32) else (0 : Int32)) else (0 : Int32))), .val (.int (if v9 = (0 : Int64) then (if v11 = (0 : Int64) then (1 : Int32) else (0 : Int32)) else (0 : Int32))), .val (.ref b17)] [(.int (if v2 = (0 : Int64) then (if v4 = (0 : Int64) then (1 : Int32) else (0 : Int32)) else (0 : Int32))), (.int (if (v2 + v9) = (0 : Int64) then (if (v4 + v11) = (0 : Int64) then (1 : Int32) else (0 : Int32)) else (0 : Int32)))])) _
      refine XS.ifNo X20.here hx rfl (hb hby at_228) rfl ((if0 _ _).trans (feq hj228).1) ?_
      refine XS.iload X20.here hx rfl (hb hby at_231) rfl ?_
      by_cases hj233 : (if v9 = (0 : Int64) then (if v11 = (0 : Int64) then (1 : Int32) else (0 : Int32)) else (0 : Int32)) = (0 : Int32)
      · rw [if_pos hj233] at hw0
        show Steps p.tables e below (T20.setTop (mkF m 233 #[.val (.long q0), .second, .val (.long q1), .second, .val (.long q2), .second, .val (.int p3), .val (.long (2305843009213693951 : Int64)), .second, .val (.long v2), .second, .val (.long v4), .second, .val (.long v5), .second, .val (.ref b6), .val (.long v9), .second, .val (.long v11), .second, .val (.long v12), .second, .val (.ref b13), .val (.int (if v2 = (0 : Int64) then (if v4 = (0 : Int64) then (1 : Int32) else (0 : Int32)) else (0 : Int32))), .val (.int (if v9 = (0 : Int64) then (if v11 = (0 : Int64) then (1 : Int32) else (0 : Int32)) else (0 : Int32))), .val (.ref b17)] [(.int (if v9 = (0 : Int64) then (if v11 = (0 : Int64) then (1 : Int32) else (0 : Int32)) else (0 : Int32))), (.int (if (v2 + v9) = (0 : Int64) then (if (v4 + v11) = (0 : Int64) then (1 : Int32) else (0 : Int32)) else (0 : Int32)))])) _
        refine XS.ifYes X20.here hx rfl (pc0 := 233) (pc' := 240) rfl (hb hby at_233) rfl ((if0 _ _).trans (teq hj233).1) (by decide) (by decide) ?_
        refine XS.iconst X20.here hx rfl (hb hby at_240) ?_
        rw [hw0] at kt
        exact kt
      · rw [if_neg hj233] at hw0
        show Steps p.tables e below (T20.setTop (mkF m 233 #[.val (.long q0), .second, .val (.long q1), .second, .val (.long q2), .second, .val (.int p3), .val (.long (2305843009213693951 : Int64)), .second, .val (.long v2), .second, .val (.long v4), .second, .val (.long v5), .second, .val (.ref b6), .val (.long v9), .second, .val (.long v11), .second, .val (.long v12), .second, .val (.ref b13), .val (.int (if v2 = (0 : Int64) then (if v4 = (0 : Int64) then (1 : Int32) else (0 : Int32)) else (0 : Int32))), .val (.int (if v9 = (0 : Int64) then (if v11 = (0 : Int64) then (1 : Int32) else (0 : Int32)) else (0 : Int32))), .val (.ref b17)] [(.int (if v9 = (0 : Int64) then (if v11 = (0 : Int64) then (1 : Int32) else (0 : Int32)) else (0 : Int32))), (.int (if (v2 + v9) = (0 : Int64) then (if (v4 + v11) = (0 : Int64) then (1 : Int32) else (0 : Int32)) else (0 : Int32)))])) _
        refine XS.ifNo X20.here hx rfl (hb hby at_233) rfl ((if0 _ _).trans (feq hj233).1) ?_
        show Steps p.tables e below (T20.setTop (mkF m 236 #[.val (.long q0), .second, .val (.long q1), .second, .val (.long q2), .second, .val (.int p3), .val (.long (2305843009213693951 : Int64)), .second, .val (.long v2), .second, .val (.long v4), .second, .val (.long v5), .second, .val (.ref b6), .val (.long v9), .second, .val (.long v11), .second, .val (.long v12), .second, .val (.ref b13), .val (.int (if v2 = (0 : Int64) then (if v4 = (0 : Int64) then (1 : Int32) else (0 : Int32)) else (0 : Int32))), .val (.int (if v9 = (0 : Int64) then (if v11 = (0 : Int64) then (1 : Int32) else (0 : Int32)) else (0 : Int32))), .val (.ref b17)] [(.int (if (v2 + v9) = (0 : Int64) then (if (v4 + v11) = (0 : Int64) then (1 : Int32) else (0 : Int32)) else (0 : Int32)))])) _
        refine XS.iconst X20.here hx rfl (hb hby at_236) ?_
        show Steps p.tables e below (T20.setTop (mkF m 237 #[.val (.long q0), .second, .val (.long q1), .second, .val (.long q2), .second, .val (.int p3), .val (.long (2305843009213693951 : Int64)), .second, .val (.long v2), .second, .val (.long v4), .second, .val (.long v5), .second, .val (.ref b6), .val (.long v9), .second, .val (.long v11), .second, .val (.long v12), .second, .val (.ref b13), .val (.int (if v2 = (0 : Int64) then (if v4 = (0 : Int64) then (1 : Int32) else (0 : Int32)) else (0 : Int32))), .val (.int (if v9 = (0 : Int64) then (if v11 = (0 : Int64) then (1 : Int32) else (0 : Int32)) else (0 : Int32))), .val (.ref b17)] [(.int (1 : Int32)), (.int (if (v2 + v9) = (0 : Int64) then (if (v4 + v11) = (0 : Int64) then (1 : Int32) else (0 : Int32)) else (0 : Int32)))])) _
        refine XS.goto X20.here hx rfl (pc0 := 237) (pc' := 241) rfl (hb hby at_237) (by decide) (by decide) ?_
        rw [hw0] at kt
        exact kt
  have hd241_22 : (if (v2 + v9) = (0 : Int64) then (if (v4 + v11) = (0 : Int64) then (1 : Int32) else (0 : Int32)) else (0 : Int32)) = (if (if v2 = (0 : Int64) then (if v4 = (0 : Int64) then (1 : Int32) else (0 : Int32)) else (0 : Int32)) = (0 : Int32) then (0 : Int32) else (if (if v9 = (0 : Int64) then (if v11 = (0 : Int64) then (1 : Int32) else (0 : Int32)) else (0 : Int32)) = (0 : Int32) then (0 : Int32) else (1 : Int32))) := by (simp only [own_z ba.1 bb.1 (by decide), own_z ba.2.1 bb.2.1 (by decide)]; by_cases z1 : v2 = (0 : Int64) <;> by_cases z2 : v4 = (0 : Int64) <;> by_cases z3 : v9 = (0 : Int64) <;> by_cases z4 : v11 = (0 : Int64) <;> simp [z1, z2, z3, z4])
  obtain ⟨fs, hr, hrun, hended, hW, hsame⟩ := X20.leave (v := some (.int (1 : Int32))) (fun h => by rw [Bd.returns] at h; cases h)
  refine ⟨_, _, ?_, hrun, hended, _, _, rfl, ?_, ⟨_, rfl⟩, hW, hsame.mono (by decide) (by decide)⟩
  · show Steps p.tables e below (s₁.setTop (mkF m 0 #[.val (.long q0), .second, .val (.long q1), .second, .val (.long q2), .second, .val (.int p3), .unset, .unset, .unset, .unset, .unset, .unset, .unset, .unset, .unset, .unset, .unset, .unset, .unset, .unset, .unset, .unset, .unset, .unset, .unset] [])) _
    refine X0.ldc2Long hx hown (mvT hZ (hw _ (List.mem_of_getElem? (i := 0) rfl))) (g := (mkF m 0 #[.val (.long q0), .second, .val (.long q1), .second, .val (.long q2), .second, .val (.int p3), .unset, .unset, .unset, .unset, .unset, .unset, .unset, .unset, .unset, .unset, .unset, .unset, .unset, .unset, .unset, .unset, .unset, .unset, .unset] [])) rfl (hb hby at_0) _ ?_
    show Steps p.tables e below (s₁.setTop (mkF m 3 #[.val (.long q0), .second, .val (.long q1), .second, .val (.long q2), .second, .val (.int p3), .unset, .unset, .unset, .unset, .unset, .unset, .unset, .unset, .unset, .unset, .unset, .unset, .unset, .unset, .unset, .unset, .unset, .unset, .unset] [(.long (2305843009213693951 : Int64))])) _
    refine XS.lstore X0.here hx rfl (hb hby at_3) rfl (l' := #[.val (.long q0), .second, .val (.long q1), .second, .val (.long q2), .second, .val (.int p3), .val (.long (2305843009213693951 : Int64)), .second, .unset, .unset, .unset, .unset, .unset, .unset, .unset, .unset, .unset, .unset, .unset, .unset, .unset, .unset, .unset, .unset, .unset]) rfl ?_
    show Steps p.tables e below (s₁.setTop (mkF m 5 #[.val (.long q0), .second, .val (.long q1), .second, .val (.long q2), .second, .val (.int p3), .val (.long (2305843009213693951 : Int64)), .second, .unset, .unset, .unset, .unset, .unset, .unset, .unset, .unset, .unset, .unset, .unset, .unset, .unset, .unset, .unset, .unset, .unset] [])) _
    refine XS.iload X0.here hx rfl (hb hby at_5) rfl ?_
    show Steps p.tables e below (s₁.setTop (mkF m 7 #[.val (.long q0), .second, .val (.long q1), .second, .val (.long q2), .second, .val (.int p3), .val (.long (2305843009213693951 : Int64)), .second, .unset, .unset, .unset, .unset, .unset, .unset, .unset, .unset, .unset, .unset, .unset, .unset, .unset, .unset, .unset, .unset, .unset] [(.int p3)])) _
    refine XS.iconst X0.here hx rfl (hb hby at_7) ?_
    refine XS.iand X0.here hx rfl (hb hby at_8) rfl ?_
    show Steps p.tables e below (s₁.setTop (mkF m 9 #[.val (.long q0), .second, .val (.long q1), .second, .val (.long q2), .second, .val (.int p3), .val (.long (2305843009213693951 : Int64)), .second, .unset, .unset, .unset, .unset, .unset, .unset, .unset, .unset, .unset, .unset, .unset, .unset, .unset, .unset, .unset, .unset, .unset] [(.int (p3 &&& (1 : Int32)))])) _
    refine J9_1 _ rfl _ ?_
    show Steps p.tables e below (s₁.setTop (mkF m 20 #[.val (.long q0), .second, .val (.long q1), .second, .val (.long q2), .second, .val (.int p3), .val (.long (2305843009213693951 : Int64)), .second, .unset, .unset, .unset, .unset, .unset, .unset, .unset, .unset, .unset, .unset, .unset, .unset, .unset, .unset, .unset, .unset, .unset] [(.long (if (p3 &&& (1 : Int32)) = (0 : Int32) then (q0 &&& (2305843009213693951 : Int64)) else (0 : Int64)))])) _
    rw [← ev2]
    show Steps p.tables e below (s₁.setTop (mkF m 20 #[.val (.long q0), .second, .val (.long q1), .second, .val (.long q2), .second, .val (.int p3), .val (.long (2305843009213693951 : Int64)), .second, .unset, .unset, .unset, .unset, .unset, .unset, .unset, .unset, .unset, .unset, .unset, .unset, .unset, .unset, .unset, .unset, .unset] [(.long v2)])) _
    refine XS.lstore X0.here hx rfl (hb hby at_20) rfl (l' := #[.val (.long q0), .second, .val (.long q1), .second, .val (.long q2), .second, .val (.int p3), .val (.long (2305843009213693951 : Int64)), .second, .val (.long v2), .second, .unset, .unset, .unset, .unset, .unset, .unset, .unset, .unset, .unset, .unset, .unset, .unset, .unset, .unset, .unset]) rfl ?_
    refine XS.iload X0.here hx rfl (hb hby at_22) rfl ?_
    show Steps p.tables e below (s₁.setTop (mkF m 24 #[.val (.long q0), .second, .val (.long q1), .second, .val (.long q2), .second, .val (.int p3), .val (.long (2305843009213693951 : Int64)), .second, .val (.long v2), .second, .unset, .unset, .unset, .unset, .unset, .unset, .unset, .unset, .unset, .unset, .unset, .unset, .unset, .unset, .unset] [(.int p3)])) _
    refine XS.iconst X0.here hx rfl (hb hby at_24) ?_
    refine XS.iand X0.here hx rfl (hb hby at_25) rfl ?_
    show Steps p.tables e below (s₁.setTop (mkF m 26 #[.val (.long q0), .second, .val (.long q1), .second, .val (.long q2), .second, .val (.int p3), .val (.long (2305843009213693951 : Int64)), .second, .val (.long v2), .second, .unset, .unset, .unset, .unset, .unset, .unset, .unset, .unset, .unset, .unset, .unset, .unset, .unset, .unset, .unset] [(.int (p3 &&& (2 : Int32)))])) _
    refine J26_3 _ rfl _ ?_
    show Steps p.tables e below (s₁.setTop (mkF m 37 #[.val (.long q0), .second, .val (.long q1), .second, .val (.long q2), .second, .val (.int p3), .val (.long (2305843009213693951 : Int64)), .second, .val (.long v2), .second, .unset, .unset, .unset, .unset, .unset, .unset, .unset, .unset, .unset, .unset, .unset, .unset, .unset, .unset, .unset] [(.long (if (p3 &&& (2 : Int32)) = (0 : Int32) then (q1 &&& (2305843009213693951 : Int64)) else (0 : Int64)))])) _
    rw [← ev4]
    show Steps p.tables e below (s₁.setTop (mkF m 37 #[.val (.long q0), .second, .val (.long q1), .second, .val (.long q2), .second, .val (.int p3), .val (.long (2305843009213693951 : Int64)), .second, .val (.long v2), .second, .unset, .unset, .unset, .unset, .unset, .unset, .unset, .unset, .unset, .unset, .unset, .unset, .unset, .unset, .unset] [(.long v4)])) _
    refine XS.lstore X0.here hx rfl (hb hby at_37) rfl (l' := #[.val (.long q0), .second, .val (.long q1), .second, .val (.long q2), .second, .val (.int p3), .val (.long (2305843009213693951 : Int64)), .second, .val (.long v2), .second, .val (.long v4), .second, .unset, .unset, .unset, .unset, .unset, .unset, .unset, .unset, .unset, .unset, .unset, .unset, .unset]) rfl ?_
    refine XS.lload X0.here hx rfl (hb hby at_39) rfl ?_
    show Steps p.tables e below (s₁.setTop (mkF m 41 #[.val (.long q0), .second, .val (.long q1), .second, .val (.long q2), .second, .val (.int p3), .val (.long (2305843009213693951 : Int64)), .second, .val (.long v2), .second, .val (.long v4), .second, .unset, .unset, .unset, .unset, .unset, .unset, .unset, .unset, .unset, .unset, .unset, .unset, .unset] [(.long q2)])) _
    refine XS.lload X0.here hx rfl (hb hby at_41) rfl ?_
    refine XS.land X0.here hx rfl (hb hby at_43) rfl ?_
    show Steps p.tables e below (s₁.setTop (mkF m 44 #[.val (.long q0), .second, .val (.long q1), .second, .val (.long q2), .second, .val (.int p3), .val (.long (2305843009213693951 : Int64)), .second, .val (.long v2), .second, .val (.long v4), .second, .unset, .unset, .unset, .unset, .unset, .unset, .unset, .unset, .unset, .unset, .unset, .unset, .unset] [(.long (q2 &&& (2305843009213693951 : Int64)))])) _
    rw [← ev5]
    show Steps p.tables e below (s₁.setTop (mkF m 44 #[.val (.long q0), .second, .val (.long q1), .second, .val (.long q2), .second, .val (.int p3), .val (.long (2305843009213693951 : Int64)), .second, .val (.long v2), .second, .val (.long v4), .second, .unset, .unset, .unset, .unset, .unset, .unset, .unset, .unset, .unset, .unset, .unset, .unset, .unset] [(.long v5)])) _
    refine XS.lstore X0.here hx rfl (hb hby at_44) rfl (l' := #[.val (.long q0), .second, .val (.long q1), .second, .val (.long q2), .second, .val (.int p3), .val (.long (2305843009213693951 : Int64)), .second, .val (.long v2), .second, .val (.long v4), .second, .val (.long v5), .second, .unset, .unset, .unset, .unset, .unset, .unset, .unset, .unset, .unset, .unset, .unset]) rfl ?_
    refine st6 _ ?_
    show Steps p.tables e below (T6.setTop (mkF m 49 #[.val (.long q0), .second, .val (.long q1), .second, .val (.long q2), .second, .val (.int p3), .val (.long (2305843009213693951 : Int64)), .second, .val (.long v2), .second, .val (.long v4), .second, .val (.long v5), .second, .unset, .unset, .unset, .unset, .unset, .unset, .unset, .unset, .unset, .unset, .unset] [(.ref b6)])) _
    refine XS.dup X6.here hx rfl (hb hby at_49) rfl rfl ?_
    refine XS.lload X6.here hx rfl (hb hby at_50) rfl ?_
    refine XS.lload X6.here hx rfl (hb hby at_52) rfl ?_
    refine XS.ladd X6.here hx rfl (hb hby at_54) rfl ?_
    show Steps p.tables e below (T6.setTop (mkF m 55 #[.val (.long q0), .second, .val (.long q1), .second, .val (.long q2), .second, .val (.int p3), .val (.long (2305843009213693951 : Int64)), .second, .val (.long v2), .second, .val (.long v4), .second, .val (.long v5), .second, .unset, .unset, .unset, .unset, .unset, .unset, .unset, .unset, .unset, .unset, .unset] [(.long (v2 + v5)), (.ref b6), (.ref b6)])) _
    refine XS.lload X6.here hx rfl (hb hby at_55) rfl ?_
    refine XS.lload X6.here hx rfl (hb hby at_57) rfl ?_
    refine XS.ladd X6.here hx rfl (hb hby at_59) rfl ?_
    refine XS.lload X6.here hx rfl (hb hby at_60) rfl ?_
    show Steps p.tables e below (T6.setTop (mkF m 62 #[.val (.long q0), .second, .val (.long q1), .second, .val (.long q2), .second, .val (.int p3), .val (.long (2305843009213693951 : Int64)), .second, .val (.long v2), .second, .val (.long v4), .second, .val (.long v5), .second, .unset, .unset, .unset, .unset, .unset, .unset, .unset, .unset, .unset, .unset, .unset] [(.long v2), (.long (v5 + v4)), (.long (v2 + v5)), (.ref b6), (.ref b6)])) _
    refine XS.lload X6.here hx rfl (hb hby at_62) rfl ?_
    refine st7.trans ?_
    refine XS.astore X7.here hx rfl (hb hby at_67) rfl rfl (l' := #[.val (.long q0), .second, .val (.long q1), .second, .val (.long q2), .second, .val (.int p3), .val (.long (2305843009213693951 : Int64)), .second, .val (.long v2), .second, .val (.long v4), .second, .val (.long v5), .second, .val (.ref b6), .unset, .unset, .unset, .unset, .unset, .unset, .unset, .unset, .unset, .unset]) rfl ?_
    refine XS.iload X7.here hx rfl (hb hby at_69) rfl ?_
    show Steps p.tables e below (T7.setTop (mkF m 71 #[.val (.long q0), .second, .val (.long q1), .second, .val (.long q2), .second, .val (.int p3), .val (.long (2305843009213693951 : Int64)), .second, .val (.long v2), .second, .val (.long v4), .second, .val (.long v5), .second, .val (.ref b6), .unset, .unset, .unset, .unset, .unset, .unset, .unset, .unset, .unset, .unset] [(.int p3)])) _
    refine XS.iconst X7.here hx rfl (hb hby at_71) ?_
    refine XS.iand X7.here hx rfl (hb hby at_72) rfl ?_
    show Steps p.tables e below (T7.setTop (mkF m 73 #[.val (.long q0), .second, .val (.long q1), .second, .val (.long q2), .second, .val (.int p3), .val (.long (2305843009213693951 : Int64)), .second, .val (.long v2), .second, .val (.long v4), .second, .val (.long v5), .second, .val (.ref b6), .unset, .unset, .unset, .unset, .unset, .unset, .unset, .unset, .unset, .unset] [(.int (p3 &&& (4 : Int32)))])) _
    refine J73_8 _ rfl _ ?_
    show Steps p.tables e below (T7.setTop (mkF m 89 #[.val (.long q0), .second, .val (.long q1), .second, .val (.long q2), .second, .val (.int p3), .val (.long (2305843009213693951 : Int64)), .second, .val (.long v2), .second, .val (.long v4), .second, .val (.long v5), .second, .val (.ref b6), .unset, .unset, .unset, .unset, .unset, .unset, .unset, .unset, .unset, .unset] [(.long (if (p3 &&& (4 : Int32)) = (0 : Int32) then ((((p3.toUInt32 >>> ((4 : Int32) &&& 31).toUInt32).toInt32) &&& (255 : Int32)).toInt64) else (0 : Int64)))])) _
    rw [← ev9]
    show Steps p.tables e below (T7.setTop (mkF m 89 #[.val (.long q0), .second, .val (.long q1), .second, .val (.long q2), .second, .val (.int p3), .val (.long (2305843009213693951 : Int64)), .second, .val (.long v2), .second, .val (.long v4), .second, .val (.long v5), .second, .val (.ref b6), .unset, .unset, .unset, .unset, .unset, .unset, .unset, .unset, .unset, .unset] [(.long v9)])) _
    refine XS.lstore X7.here hx rfl (hb hby at_89) rfl (l' := #[.val (.long q0), .second, .val (.long q1), .second, .val (.long q2), .second, .val (.int p3), .val (.long (2305843009213693951 : Int64)), .second, .val (.long v2), .second, .val (.long v4), .second, .val (.long v5), .second, .val (.ref b6), .val (.long v9), .second, .unset, .unset, .unset, .unset, .unset, .unset, .unset, .unset]) rfl ?_
    refine XS.iload X7.here hx rfl (hb hby at_91) rfl ?_
    refine XS.bipush X7.here hx rfl (hb hby at_93) ?_
    show Steps p.tables e below (T7.setTop (mkF m 95 #[.val (.long q0), .second, .val (.long q1), .second, .val (.long q2), .second, .val (.int p3), .val (.long (2305843009213693951 : Int64)), .second, .val (.long v2), .second, .val (.long v4), .second, .val (.long v5), .second, .val (.ref b6), .val (.long v9), .second, .unset, .unset, .unset, .unset, .unset, .unset, .unset, .unset] [(.int (8 : Int32)), (.int p3)])) _
    refine XS.iand X7.here hx rfl (hb hby at_95) rfl ?_
    show Steps p.tables e below (T7.setTop (mkF m 96 #[.val (.long q0), .second, .val (.long q1), .second, .val (.long q2), .second, .val (.int p3), .val (.long (2305843009213693951 : Int64)), .second, .val (.long v2), .second, .val (.long v4), .second, .val (.long v5), .second, .val (.ref b6), .val (.long v9), .second, .unset, .unset, .unset, .unset, .unset, .unset, .unset, .unset] [(.int (p3 &&& (8 : Int32)))])) _
    refine J96_10 _ rfl _ ?_
    show Steps p.tables e below (T7.setTop (mkF m 113 #[.val (.long q0), .second, .val (.long q1), .second, .val (.long q2), .second, .val (.int p3), .val (.long (2305843009213693951 : Int64)), .second, .val (.long v2), .second, .val (.long v4), .second, .val (.long v5), .second, .val (.ref b6), .val (.long v9), .second, .unset, .unset, .unset, .unset, .unset, .unset, .unset, .unset] [(.long (if (p3 &&& (8 : Int32)) = (0 : Int32) then ((((p3.toUInt32 >>> ((12 : Int32) &&& 31).toUInt32).toInt32) &&& (255 : Int32)).toInt64) else (0 : Int64)))])) _
    rw [← ev11]
    show Steps p.tables e below (T7.setTop (mkF m 113 #[.val (.long q0), .second, .val (.long q1), .second, .val (.long q2), .second, .val (.int p3), .val (.long (2305843009213693951 : Int64)), .second, .val (.long v2), .second, .val (.long v4), .second, .val (.long v5), .second, .val (.ref b6), .val (.long v9), .second, .unset, .unset, .unset, .unset, .unset, .unset, .unset, .unset] [(.long v11)])) _
    refine XS.lstore X7.here hx rfl (hb hby at_113) rfl (l' := #[.val (.long q0), .second, .val (.long q1), .second, .val (.long q2), .second, .val (.int p3), .val (.long (2305843009213693951 : Int64)), .second, .val (.long v2), .second, .val (.long v4), .second, .val (.long v5), .second, .val (.ref b6), .val (.long v9), .second, .val (.long v11), .second, .unset, .unset, .unset, .unset, .unset, .unset]) rfl ?_
    refine XS.iload X7.here hx rfl (hb hby at_115) rfl ?_
    refine XS.bipush X7.here hx rfl (hb hby at_117) ?_
    refine XS.iushr X7.here hx rfl (hb hby at_119) rfl ?_
    show Steps p.tables e below (T7.setTop (mkF m 120 #[.val (.long q0), .second, .val (.long q1), .second, .val (.long q2), .second, .val (.int p3), .val (.long (2305843009213693951 : Int64)), .second, .val (.long v2), .second, .val (.long v4), .second, .val (.long v5), .second, .val (.ref b6), .val (.long v9), .second, .val (.long v11), .second, .unset, .unset, .unset, .unset, .unset, .unset] [(.int ((p3.toUInt32 >>> ((20 : Int32) &&& 31).toUInt32).toInt32))])) _
    refine XS.sipush X7.here hx rfl (hb hby at_120) ?_
    refine XS.iand X7.here hx rfl (hb hby at_123) rfl ?_
    refine XS.i2l X7.here hx rfl (hb hby at_124) rfl ?_
    show Steps p.tables e below (T7.setTop (mkF m 125 #[.val (.long q0), .second, .val (.long q1), .second, .val (.long q2), .second, .val (.int p3), .val (.long (2305843009213693951 : Int64)), .second, .val (.long v2), .second, .val (.long v4), .second, .val (.long v5), .second, .val (.ref b6), .val (.long v9), .second, .val (.long v11), .second, .unset, .unset, .unset, .unset, .unset, .unset] [(.long ((((p3.toUInt32 >>> ((20 : Int32) &&& 31).toUInt32).toInt32) &&& (255 : Int32)).toInt64))])) _
    rw [← ev12]
    show Steps p.tables e below (T7.setTop (mkF m 125 #[.val (.long q0), .second, .val (.long q1), .second, .val (.long q2), .second, .val (.int p3), .val (.long (2305843009213693951 : Int64)), .second, .val (.long v2), .second, .val (.long v4), .second, .val (.long v5), .second, .val (.ref b6), .val (.long v9), .second, .val (.long v11), .second, .unset, .unset, .unset, .unset, .unset, .unset] [(.long v12)])) _
    refine XS.lstore X7.here hx rfl (hb hby at_125) rfl (l' := #[.val (.long q0), .second, .val (.long q1), .second, .val (.long q2), .second, .val (.int p3), .val (.long (2305843009213693951 : Int64)), .second, .val (.long v2), .second, .val (.long v4), .second, .val (.long v5), .second, .val (.ref b6), .val (.long v9), .second, .val (.long v11), .second, .val (.long v12), .second, .unset, .unset, .unset, .unset]) rfl ?_
    show Steps p.tables e below (T7.setTop (mkF m 127 #[.val (.long q0), .second, .val (.long q1), .second, .val (.long q2), .second, .val (.int p3), .val (.long (2305843009213693951 : Int64)), .second, .val (.long v2), .second, .val (.long v4), .second, .val (.long v5), .second, .val (.ref b6), .val (.long v9), .second, .val (.long v11), .second, .val (.long v12), .second, .unset, .unset, .unset, .unset] [])) _
    refine st13 _ ?_
    refine XS.dup X13.here hx rfl (hb hby at_130) rfl rfl ?_
    refine XS.lload X13.here hx rfl (hb hby at_131) rfl ?_
    refine XS.lload X13.here hx rfl (hb hby at_133) rfl ?_
    show Steps p.tables e below (T13.setTop (mkF m 135 #[.val (.long q0), .second, .val (.long q1), .second, .val (.long q2), .second, .val (.int p3), .val (.long (2305843009213693951 : Int64)), .second, .val (.long v2), .second, .val (.long v4), .second, .val (.long v5), .second, .val (.ref b6), .val (.long v9), .second, .val (.long v11), .second, .val (.long v12), .second, .unset, .unset, .unset, .unset] [(.long v12), (.long v9), (.ref b13), (.ref b13)])) _
    refine XS.ladd X13.here hx rfl (hb hby at_135) rfl ?_
    refine XS.lload X13.here hx rfl (hb hby at_136) rfl ?_
    refine XS.lload X13.here hx rfl (hb hby at_138) rfl ?_
    refine XS.ladd X13.here hx rfl (hb hby at_140) rfl ?_
    show Steps p.tables e below (T13.setTop (mkF m 141 #[.val (.long q0), .second, .val (.long q1), .second, .val (.long q2), .second, .val (.int p3), .val (.long (2305843009213693951 : Int64)), .second, .val (.long v2), .second, .val (.long v4), .second, .val (.long v5), .second, .val (.ref b6), .val (.long v9), .second, .val (.long v11), .second, .val (.long v12), .second, .unset, .unset, .unset, .unset] [(.long (v12 + v11)), (.long (v9 + v12)), (.ref b13), (.ref b13)])) _
    refine XS.lload X13.here hx rfl (hb hby at_141) rfl ?_
    refine XS.lload X13.here hx rfl (hb hby at_143) rfl ?_
    refine st14.trans ?_
    refine XS.astore X14.here hx rfl (hb hby at_148) rfl rfl (l' := #[.val (.long q0), .second, .val (.long q1), .second, .val (.long q2), .second, .val (.int p3), .val (.long (2305843009213693951 : Int64)), .second, .val (.long v2), .second, .val (.long v4), .second, .val (.long v5), .second, .val (.ref b6), .val (.long v9), .second, .val (.long v11), .second, .val (.long v12), .second, .val (.ref b13), .unset, .unset, .unset]) rfl ?_
    show Steps p.tables e below (T14.setTop (mkF m 150 #[.val (.long q0), .second, .val (.long q1), .second, .val (.long q2), .second, .val (.int p3), .val (.long (2305843009213693951 : Int64)), .second, .val (.long v2), .second, .val (.long v4), .second, .val (.long v5), .second, .val (.ref b6), .val (.long v9), .second, .val (.long v11), .second, .val (.long v12), .second, .val (.ref b13), .unset, .unset, .unset] [])) _
    refine XS.lload X14.here hx rfl (hb hby at_150) rfl ?_
    refine XS.lconst X14.here hx rfl (hb hby at_152) ?_
    refine XS.lcmp X14.here hx rfl (hb hby at_153) rfl ?_
    show Steps p.tables e below (T14.setTop (mkF m 154 #[.val (.long q0), .second, .val (.long q1), .second, .val (.long q2), .second, .val (.int p3), .val (.long (2305843009213693951 : Int64)), .second, .val (.long v2), .second, .val (.long v4), .second, .val (.long v5), .second, .val (.ref b6), .val (.long v9), .second, .val (.long v11), .second, .val (.long v12), .second, .val (.ref b13), .unset, .unset, .unset] [(.int (lcmpW v2 (0 : Int64)))])) _
    refine J154_15 _ rfl _ ?_
    refine XS.istore X14.here hx rfl (hb hby at_169) rfl (l' := #[.val (.long q0), .second, .val (.long q1), .second, .val (.long q2), .second, .val (.int p3), .val (.long (2305843009213693951 : Int64)), .second, .val (.long v2), .second, .val (.long v4), .second, .val (.long v5), .second, .val (.ref b6), .val (.long v9), .second, .val (.long v11), .second, .val (.long v12), .second, .val (.ref b13), .val (.int (if v2 = (0 : Int64) then (if v4 = (0 : Int64) then (1 : Int32) else (0 : Int32)) else (0 : Int32))), .unset, .unset]) rfl ?_
    refine XS.lload X14.here hx rfl (hb hby at_171) rfl ?_
    refine XS.lconst X14.here hx rfl (hb hby at_173) ?_
    show Steps p.tables e below (T14.setTop (mkF m 174 #[.val (.long q0), .second, .val (.long q1), .second, .val (.long q2), .second, .val (.int p3), .val (.long (2305843009213693951 : Int64)), .second, .val (.long v2), .second, .val (.long v4), .second, .val (.long v5), .second, .val (.ref b6), .val (.long v9), .second, .val (.long v11), .second, .val (.long v12), .second, .val (.ref b13), .val (.int (if v2 = (0 : Int64) then (if v4 = (0 : Int64) then (1 : Int32) else (0 : Int32)) else (0 : Int32))), .unset, .unset] [(.long (0 : Int64)), (.long v9)])) _
    refine XS.lcmp X14.here hx rfl (hb hby at_174) rfl ?_
    show Steps p.tables e below (T14.setTop (mkF m 175 #[.val (.long q0), .second, .val (.long q1), .second, .val (.long q2), .second, .val (.int p3), .val (.long (2305843009213693951 : Int64)), .second, .val (.long v2), .second, .val (.long v4), .second, .val (.long v5), .second, .val (.ref b6), .val (.long v9), .second, .val (.long v11), .second, .val (.long v12), .second, .val (.ref b13), .val (.int (if v2 = (0 : Int64) then (if v4 = (0 : Int64) then (1 : Int32) else (0 : Int32)) else (0 : Int32))), .unset, .unset] [(.int (lcmpW v9 (0 : Int64)))])) _
    refine J175_16 _ rfl _ ?_
    refine XS.istore X14.here hx rfl (hb hby at_190) rfl (l' := #[.val (.long q0), .second, .val (.long q1), .second, .val (.long q2), .second, .val (.int p3), .val (.long (2305843009213693951 : Int64)), .second, .val (.long v2), .second, .val (.long v4), .second, .val (.long v5), .second, .val (.ref b6), .val (.long v9), .second, .val (.long v11), .second, .val (.long v12), .second, .val (.ref b13), .val (.int (if v2 = (0 : Int64) then (if v4 = (0 : Int64) then (1 : Int32) else (0 : Int32)) else (0 : Int32))), .val (.int (if v9 = (0 : Int64) then (if v11 = (0 : Int64) then (1 : Int32) else (0 : Int32)) else (0 : Int32))), .unset]) rfl ?_
    show Steps p.tables e below (T14.setTop (mkF m 192 #[.val (.long q0), .second, .val (.long q1), .second, .val (.long q2), .second, .val (.int p3), .val (.long (2305843009213693951 : Int64)), .second, .val (.long v2), .second, .val (.long v4), .second, .val (.long v5), .second, .val (.ref b6), .val (.long v9), .second, .val (.long v11), .second, .val (.long v12), .second, .val (.ref b13), .val (.int (if v2 = (0 : Int64) then (if v4 = (0 : Int64) then (1 : Int32) else (0 : Int32)) else (0 : Int32))), .val (.int (if v9 = (0 : Int64) then (if v11 = (0 : Int64) then (1 : Int32) else (0 : Int32)) else (0 : Int32))), .unset] [])) _
    refine XS.aload X14.here hx rfl (hb hby at_192) rfl rfl ?_
    refine XS.aload X14.here hx rfl (hb hby at_194) rfl rfl ?_
    refine st17.trans ?_
    refine XS.astore X17.here hx rfl (hb hby at_199) rfl rfl (l' := #[.val (.long q0), .second, .val (.long q1), .second, .val (.long q2), .second, .val (.int p3), .val (.long (2305843009213693951 : Int64)), .second, .val (.long v2), .second, .val (.long v4), .second, .val (.long v5), .second, .val (.ref b6), .val (.long v9), .second, .val (.long v11), .second, .val (.long v12), .second, .val (.ref b13), .val (.int (if v2 = (0 : Int64) then (if v4 = (0 : Int64) then (1 : Int32) else (0 : Int32)) else (0 : Int32))), .val (.int (if v9 = (0 : Int64) then (if v11 = (0 : Int64) then (1 : Int32) else (0 : Int32)) else (0 : Int32))), .val (.ref b17)]) rfl ?_
    show Steps p.tables e below (T17.setTop (mkF m 201 #[.val (.long q0), .second, .val (.long q1), .second, .val (.long q2), .second, .val (.int p3), .val (.long (2305843009213693951 : Int64)), .second, .val (.long v2), .second, .val (.long v4), .second, .val (.long v5), .second, .val (.ref b6), .val (.long v9), .second, .val (.long v11), .second, .val (.long v12), .second, .val (.ref b13), .val (.int (if v2 = (0 : Int64) then (if v4 = (0 : Int64) then (1 : Int32) else (0 : Int32)) else (0 : Int32))), .val (.int (if v9 = (0 : Int64) then (if v11 = (0 : Int64) then (1 : Int32) else (0 : Int32)) else (0 : Int32))), .val (.ref b17)] [])) _
    refine XS.aload X17.here hx rfl (hb hby at_201) rfl rfl ?_
    refine st18.trans ?_
    refine XS.iload X18.here hx rfl (hb hby at_206) rfl ?_
    show Steps p.tables e below (T18.setTop (mkF m 208 #[.val (.long q0), .second, .val (.long q1), .second, .val (.long q2), .second, .val (.int p3), .val (.long (2305843009213693951 : Int64)), .second, .val (.long v2), .second, .val (.long v4), .second, .val (.long v5), .second, .val (.ref b6), .val (.long v9), .second, .val (.long v11), .second, .val (.long v12), .second, .val (.ref b13), .val (.int (if v2 = (0 : Int64) then (if v4 = (0 : Int64) then (1 : Int32) else (0 : Int32)) else (0 : Int32))), .val (.int (if v9 = (0 : Int64) then (if v11 = (0 : Int64) then (1 : Int32) else (0 : Int32)) else (0 : Int32))), .val (.ref b17)] [(.int (if v2 = (0 : Int64) then (if v4 = (0 : Int64) then (1 : Int32) else (0 : Int32)) else (0 : Int32))), (.int (if v2 = (0 : Int64) then (if v4 = (0 : Int64) then (1 : Int32) else (0 : Int32)) else (0 : Int32)))])) _
    refine XS.icmpNo X18.here hx rfl (hb hby at_208) rfl (teq (rfl : (if v2 = (0 : Int64) then (if v4 = (0 : Int64) then (1 : Int32) else (0 : Int32)) else (0 : Int32)) = (if v2 = (0 : Int64) then (if v4 = (0 : Int64) then (1 : Int32) else (0 : Int32)) else (0 : Int32)))).2 ?_
    refine XS.aload X18.here hx rfl (hb hby at_211) rfl rfl ?_
    show Steps p.tables e below (T18.setTop (mkF m 213 #[.val (.long q0), .second, .val (.long q1), .second, .val (.long q2), .second, .val (.int p3), .val (.long (2305843009213693951 : Int64)), .second, .val (.long v2), .second, .val (.long v4), .second, .val (.long v5), .second, .val (.ref b6), .val (.long v9), .second, .val (.long v11), .second, .val (.long v12), .second, .val (.ref b13), .val (.int (if v2 = (0 : Int64) then (if v4 = (0 : Int64) then (1 : Int32) else (0 : Int32)) else (0 : Int32))), .val (.int (if v9 = (0 : Int64) then (if v11 = (0 : Int64) then (1 : Int32) else (0 : Int32)) else (0 : Int32))), .val (.ref b17)] [(.ref b13)])) _
    refine st19.trans ?_
    refine XS.iload X19.here hx rfl (hb hby at_216) rfl ?_
    show Steps p.tables e below (T19.setTop (mkF m 218 #[.val (.long q0), .second, .val (.long q1), .second, .val (.long q2), .second, .val (.int p3), .val (.long (2305843009213693951 : Int64)), .second, .val (.long v2), .second, .val (.long v4), .second, .val (.long v5), .second, .val (.ref b6), .val (.long v9), .second, .val (.long v11), .second, .val (.long v12), .second, .val (.ref b13), .val (.int (if v2 = (0 : Int64) then (if v4 = (0 : Int64) then (1 : Int32) else (0 : Int32)) else (0 : Int32))), .val (.int (if v9 = (0 : Int64) then (if v11 = (0 : Int64) then (1 : Int32) else (0 : Int32)) else (0 : Int32))), .val (.ref b17)] [(.int (if v9 = (0 : Int64) then (if v11 = (0 : Int64) then (1 : Int32) else (0 : Int32)) else (0 : Int32))), (.int (if v9 = (0 : Int64) then (if v11 = (0 : Int64) then (1 : Int32) else (0 : Int32)) else (0 : Int32)))])) _
    refine XS.icmpNo X19.here hx rfl (hb hby at_218) rfl (teq (rfl : (if v9 = (0 : Int64) then (if v11 = (0 : Int64) then (1 : Int32) else (0 : Int32)) else (0 : Int32)) = (if v9 = (0 : Int64) then (if v11 = (0 : Int64) then (1 : Int32) else (0 : Int32)) else (0 : Int32)))).2 ?_
    refine XS.aload X19.here hx rfl (hb hby at_221) rfl rfl ?_
    refine st20.trans ?_
    show Steps p.tables e below (T20.setTop (mkF m 226 #[.val (.long q0), .second, .val (.long q1), .second, .val (.long q2), .second, .val (.int p3), .val (.long (2305843009213693951 : Int64)), .second, .val (.long v2), .second, .val (.long v4), .second, .val (.long v5), .second, .val (.ref b6), .val (.long v9), .second, .val (.long v11), .second, .val (.long v12), .second, .val (.ref b13), .val (.int (if v2 = (0 : Int64) then (if v4 = (0 : Int64) then (1 : Int32) else (0 : Int32)) else (0 : Int32))), .val (.int (if v9 = (0 : Int64) then (if v11 = (0 : Int64) then (1 : Int32) else (0 : Int32)) else (0 : Int32))), .val (.ref b17)] [(.int (if (v2 + v9) = (0 : Int64) then (if (v4 + v11) = (0 : Int64) then (1 : Int32) else (0 : Int32)) else (0 : Int32)))])) _
    refine XS.iload X20.here hx rfl (hb hby at_226) rfl ?_
    show Steps p.tables e below (T20.setTop (mkF m 228 #[.val (.long q0), .second, .val (.long q1), .second, .val (.long q2), .second, .val (.int p3), .val (.long (2305843009213693951 : Int64)), .second, .val (.long v2), .second, .val (.long v4), .second, .val (.long v5), .second, .val (.ref b6), .val (.long v9), .second, .val (.long v11), .second, .val (.long v12), .second, .val (.ref b13), .val (.int (if v2 = (0 : Int64) then (if v4 = (0 : Int64) then (1 : Int32) else (0 : Int32)) else (0 : Int32))), .val (.int (if v9 = (0 : Int64) then (if v11 = (0 : Int64) then (1 : Int32) else (0 : Int32)) else (0 : Int32))), .val (.ref b17)] [(.int (if v2 = (0 : Int64) then (if v4 = (0 : Int64) then (1 : Int32) else (0 : Int32)) else (0 : Int32))), (.int (if (v2 + v9) = (0 : Int64) then (if (v4 + v11) = (0 : Int64) then (1 : Int32) else (0 : Int32)) else (0 : Int32)))])) _
    refine J228_21 _ rfl _ ?_
    show Steps p.tables e below (T20.setTop (mkF m 241 #[.val (.long q0), .second, .val (.long q1), .second, .val (.long q2), .second, .val (.int p3), .val (.long (2305843009213693951 : Int64)), .second, .val (.long v2), .second, .val (.long v4), .second, .val (.long v5), .second, .val (.ref b6), .val (.long v9), .second, .val (.long v11), .second, .val (.long v12), .second, .val (.ref b13), .val (.int (if v2 = (0 : Int64) then (if v4 = (0 : Int64) then (1 : Int32) else (0 : Int32)) else (0 : Int32))), .val (.int (if v9 = (0 : Int64) then (if v11 = (0 : Int64) then (1 : Int32) else (0 : Int32)) else (0 : Int32))), .val (.ref b17)] [(.int (if (if v2 = (0 : Int64) then (if v4 = (0 : Int64) then (1 : Int32) else (0 : Int32)) else (0 : Int32)) = (0 : Int32) then (0 : Int32) else (if (if v9 = (0 : Int64) then (if v11 = (0 : Int64) then (1 : Int32) else (0 : Int32)) else (0 : Int32)) = (0 : Int32) then (0 : Int32) else (1 : Int32)))), (.int (if (v2 + v9) = (0 : Int64) then (if (v4 + v11) = (0 : Int64) then (1 : Int32) else (0 : Int32)) else (0 : Int32)))])) _
    refine XS.icmpNo X20.here hx rfl (hb hby at_241) rfl (teq hd241_22).2 ?_
    refine XS.iconst X20.here hx rfl (hb hby at_244) ?_
    show Steps p.tables e below (T20.setTop (mkF m 245 #[.val (.long q0), .second, .val (.long q1), .second, .val (.long q2), .second, .val (.int p3), .val (.long (2305843009213693951 : Int64)), .second, .val (.long v2), .second, .val (.long v4), .second, .val (.long v5), .second, .val (.ref b6), .val (.long v9), .second, .val (.long v11), .second, .val (.long v12), .second, .val (.ref b13), .val (.int (if v2 = (0 : Int64) then (if v4 = (0 : Int64) then (1 : Int32) else (0 : Int32)) else (0 : Int32))), .val (.int (if v9 = (0 : Int64) then (if v11 = (0 : Int64) then (1 : Int32) else (0 : Int32)) else (0 : Int32))), .val (.ref b17)] [(.int (1 : Int32))])) _
    refine XS.goto X20.here hx rfl (pc0 := 245) (pc' := 249) rfl (hb hby at_245) (by decide) (by decide) ?_
    show Steps p.tables e below (T20.setTop (mkF m 249 #[.val (.long q0), .second, .val (.long q1), .second, .val (.long q2), .second, .val (.int p3), .val (.long (2305843009213693951 : Int64)), .second, .val (.long v2), .second, .val (.long v4), .second, .val (.long v5), .second, .val (.ref b6), .val (.long v9), .second, .val (.long v11), .second, .val (.long v12), .second, .val (.ref b13), .val (.int (if v2 = (0 : Int64) then (if v4 = (0 : Int64) then (1 : Int32) else (0 : Int32)) else (0 : Int32))), .val (.int (if v9 = (0 : Int64) then (if v11 = (0 : Int64) then (1 : Int32) else (0 : Int32)) else (0 : Int32))), .val (.ref b17)] [(.int (1 : Int32))])) _
    exact retN X20 hx (t := .boolean) Bd.returns (by simp) (hb hby at_249) hr
  · show Q0 Z q0 q1 q2 p3  h0 n0 _ T20.heap _
    rw [e20]
    exact ⟨rfl, N20⟩
set_option maxRecDepth 65536 in
set_option maxHeartbeats 40000000 in
theorem comes_1 {Post : Tables → Env → Array Value → State → Outcome → State → Prop} (hpost : ∀ tb e args s v u, (limb_1_1.after args s (.returned v) u = true ∧ limb_1_2.after args s (.returned v) u = true ∧ True) → FrameEnd s (.returned v) u (Jvm.fieldLocs frame_1_writes args s ++ Jvm.arrayLocs frame_1_arrays args s ++ Jvm.staticLocs frame_1_statics s) 16 128 → Post tb e args s (.returned v) u) :
    ArmFor flags0 classFile x code maxLocals ret World_1 tables_1 room_1 Calls_1 rest_1 Pre_1 Post := by
  intro l hfl _ _ p e ha hc hk s m args below hf hA hF happ hP
  obtain ⟨hcalls, hrest, hpre⟩ := hP
  obtain ⟨-, -, -, hnamed, -, -, -, hat⟩ := (Spec.applies_iff hf).mp happ
  obtain ⟨hg, hn⟩ := and_e (Cond.before_iff.mp (show (Jvm.Cond.and given_1 narrow_1).before args s = true from hpre))
  obtain ⟨g1, g2⟩ := and_e hg
  obtain ⟨g3, g4⟩ := and_e g2
  obtain ⟨g5, g6⟩ := and_e g4
  obtain ⟨g7, g8⟩ := and_e g6
  obtain ⟨w0, w1, w2, w3, rfl⟩ : ∃ w0 w1 w2 w3 : Value, args = #[w0, w1, w2, w3] := by
    have hs : args.size = 4 := by simpa [Cond.value, given_1] using g1
    obtain ⟨L⟩ := args
    match L, hs with
    | [w0, w1, w2, w3], _ => exact ⟨w0, w1, w2, w3, rfl⟩
  have hw := fun d (hd : d ∈ tables_1) => atoms_spec (ws := Jvm.Cond.code x code maxLocals ret :: tables_1) hat d (List.mem_cons_of_mem _ hd)
  have hfit : Fit s := fun {y c} hc i hi => by
    obtain ⟨ha, rfl⟩ := Array.getElem?_eq_some_iff.mp hc
    have q := List.all_eq_true.mp ((Array.all_eq_true_iff_forall_mem.mp hF) _ (Array.getElem_mem ha)) i (List.mem_range.mpr hi)
    simpa [Array.getElem?_eq_getElem hi] using q
  obtain ⟨i0, ei0⟩ := isL_v g3
  obtain rfl : w0 = (.long i0) := Option.some.inj ei0
  obtain ⟨i1, ei1⟩ := isL_v g5
  obtain rfl : w1 = (.long i1) := Option.some.inj ei1
  obtain ⟨i2, ei2⟩ := isL_v g7
  obtain rfl : w2 = (.long i2) := Option.some.inj ei2
  obtain ⟨i3, ei3⟩ := is_v g8
  obtain rfl : w3 = (.int i3) := Option.some.inj ei3
  obtain ⟨n, o, h1, h2, h3, _, L, rfl, ⟨rfl, N⟩, hq⟩ := rm0 l s _ hw tables_1 i0 i1 i2 i3  s.heap s.heap.size (Nat.le_refl _)  p e ha hc hk s m _ below hf ((Spec.applies_iff_loose hf).mp happ).1 ⟨rfl, State.Warmed39.refl s, rfl⟩ trivial
  refine ⟨n, _, h1, h2, h3, hpost _ _ _ _ _ _ ⟨Cond.after_iff.mpr rfl, Cond.after_iff.mpr (eq_i res_at (Term.int_eval (1)) rfl), trivial⟩ ⟨hq.1, hq.2.1, (hq.2.2.sift fun y hy => Or.inr (N y hy)).mono (by decide) (by decide)⟩⟩
theorem main_1_1 : Claimed_1_1 := comes_1 fun _ _ _ _ _ _ h hF => ⟨h.1, hF⟩
theorem main_1_2 : Claimed_1_2 := comes_1 fun _ _ _ _ _ _ h hF => ⟨h.2.1, hF⟩
end Jvm.Pilot.@@N@@
namespace Jvm.Pilot.@@N@@
open Jvm Jvm.ClassFile Sem Op Lib Jvm.Free Jvm.Stand Jvm.Pilot.@@N@@.Jvm.D
/-! MADE BY PROGRAM (witnessworld.py) out of the Statement's table words and the real class files: 11 classes; the members and pool entries that the words name. The judged class is class 1, her method 1. -/
namespace start1
open Jvm.ClassFile
def u (s : String) : CpInfo := .utf8 (stringToUtf16 s)
/-- a pool by its gaps: so many unusable entries, then the entry; so many at the end -/
def gap : Nat → List CpInfo → List CpInfo
  | 0, r => r
  | n + 1, r => .unusable :: gap n r
def poolList (es : List (Nat × CpInfo)) (last : Nat) : List CpInfo := es.foldr (fun e r => gap e.1 (e.2 :: r)) (gap last [])
def pool (es : List (Nat × CpInfo)) (last : Nat) : Array CpInfo := ⟨poolList es last⟩
def fileOf (pool : Array CpInfo) (this : Nat) (attrs : Array Attribute := #[]) (ms : Array MethodInfo := #[]) (fl : Nat := 33) (sup : Nat := 0) (ifs : Array Nat := #[]) (fds : Array FieldInfo := #[]) : ClassFile where
  minorVersion := 0
  majorVersion := 65
  constantPool := pool
  accessFlags := fl
  thisClass := this
  superClass := sup
  interfaces := ifs
  fields := fds
  methods := ms
  attributes := attrs
def plain (name : String) (sup : Option ClassId) : Class where
  name := name
  kind := .ordinary
  loader := none
  accessFlags := 33
  super := sup
  interfaces := #[]
  cf := none
  fields := #[]
  methods := #[]
  instanceTypes := #[]
  staticTypes := #[]
  resolved := #[]
  callSites := []
  init := .initialized
  statics := none
  mirror := none

def pool0 : Array CpInfo := pool [(5, u "<init>"), (0, u "()V"), (1, .class_ 10), (1, u "java/lang/Object")] 113

def k0c0 : Code := { maxStack := 0, maxLocals := 1, code := object_method_1_code, exceptionTable := #[], attributes := #[] }
def k0m0 : Method := { name := "<init>", desc := "()V", sig := { parameters := [], returnType := none }, accessFlags := 1, code := some k0c0 }
/-- java/lang/Object -/
def k0 : Class := { plain "java/lang/Object" none with
  accessFlags := 33
  interfaces := #[]
  cf := some (fileOf pool0 8 #[] #[{ accessFlags := 1, nameIndex := 5, descriptorIndex := 6, attributes := #[] }] 33 0 #[] #[])
  fields := #[]
  methods := #[k0m0]
  instanceTypes := #[]
  staticTypes := #[]
  resolved := Array.replicate 124 none
  statics := none }

def pool1 : Array CpInfo := pool [(2, .class_ 4), (1, u "java/lang/Object"), (0, u "<init>"), (0, u "()V"), (0, .long 2305843009213693951), (1, .class_ 10), (0, u "com/example/ensyn/ensyn/replay/TokenCounts"), (0, .methodref 9 12), (0, .nameAndType 5 13), (0, u "(JJJJ)V"), (0, .methodref 9 15), (0, .nameAndType 16 17), (0, u "plus"), (0, u "(Lcom/example/ensyn/ensyn/replay/TokenCounts;)Lcom/example/ensyn/ensyn/replay/TokenCounts;"), (0, .methodref 9 19), (0, .nameAndType 20 21), (0, u "fits"), (0, u "()Z"), (0, .class_ 23), (0, u "com/example/ensyn/ensyn/replay/TokenCountsFitsPinLaw"), (2, u "law"), (0, u "(JJJI)Z")] 3

def k1m0 : Method := { name := "<init>", desc := "()V", sig := { parameters := [], returnType := none }, accessFlags := 1, code := none }
def k1c1 : Code := { maxStack := 10, maxLocals := 26, code := code, exceptionTable := #[], attributes := #[] }
def k1m1 : Method := { name := "law", desc := "(JJJI)Z", sig := { parameters := [.long, .long, .long, .int], returnType := some .boolean }, accessFlags := 9, code := some k1c1 }
/-- com/example/ensyn/ensyn/replay/TokenCountsFitsPinLaw -/
def k1 : Class := { plain "com/example/ensyn/ensyn/replay/TokenCountsFitsPinLaw" (some 0) with
  accessFlags := 49
  interfaces := #[]
  cf := some (fileOf pool1 22 #[] #[{ accessFlags := 1, nameIndex := 5, descriptorIndex := 6, attributes := #[] }, { accessFlags := 9, nameIndex := 26, descriptorIndex := 27, attributes := #[] }] 49 2 #[] #[])
  fields := #[]
  methods := #[k1m0, k1m1]
  instanceTypes := #[]
  staticTypes := #[]
  resolved := Array.replicate 31 none
  statics := none }

def pool2 : Array CpInfo := pool [(1, .methodref 2 3), (0, .class_ 4), (0, .nameAndType 5 6), (0, u "java/lang/Object"), (0, u "<init>"), (0, u "()V"), (0, .class_ 8), (0, u "java/lang/Record")] 13

def k2c0 : Code := { maxStack := 1, maxLocals := 1, code := jdk_30_method_1_code, exceptionTable := #[], attributes := #[] }
def k2m0 : Method := { name := "<init>", desc := "()V", sig := { parameters := [], returnType := none }, accessFlags := 4, code := some k2c0 }
/-- java/lang/Record -/
def k2 : Class := { plain "java/lang/Record" (some 0) with
  accessFlags := 1057
  interfaces := #[]
  cf := some (fileOf pool2 7 #[] #[{ accessFlags := 4, nameIndex := 5, descriptorIndex := 6, attributes := #[] }] 1057 2 #[] #[])
  fields := #[]
  methods := #[k2m0]
  instanceTypes := #[]
  staticTypes := #[]
  resolved := Array.replicate 22 none
  statics := none }

def pool3 : Array CpInfo := pool [(1, .methodref 2 3), (0, .class_ 4), (0, .nameAndType 5 6), (0, u "java/lang/Record"), (0, u "<init>"), (0, u "()V"), (3, .class_ 12), (1, u "com/example/ensyn/ensyn/replay/TokenCounts"), (10, .fieldref 10 24), (0, .nameAndType 25 26), (0, u "consumed"), (0, u "J"), (0, .fieldref 10 28), (0, .nameAndType 29 26), (0, u "produced"), (0, .fieldref 10 31), (0, .nameAndType 32 26), (0, u "missing"), (0, .fieldref 10 34), (0, .nameAndType 35 26), (0, u "remaining"), (0, .methodref 37 38), (0, .class_ 39), (0, .nameAndType 40 41), (0, u "java/lang/Math"), (0, u "addExact"), (0, u "(JJ)J"), (0, .methodref 10 43), (0, .nameAndType 5 44), (0, u "(JJJJ)V"), (22, u "NONE"), (0, u "Lcom/example/ensyn/ensyn/replay/TokenCounts;"), (4, u "plus"), (0, u "(Lcom/example/ensyn/ensyn/replay/TokenCounts;)Lcom/example/ensyn/ensyn/replay/TokenCounts;"), (0, u "fits"), (0, u "()Z")] 42

def k3c0 : Code := { maxStack := 10, maxLocals := 9, code := prog_22_method_1_code, exceptionTable := #[], attributes := #[] }
def k3m0 : Method := { name := "<init>", desc := "(JJJJ)V", sig := { parameters := [.long, .long, .long, .long], returnType := none }, accessFlags := 1, code := some k3c0 }
def k3c1 : Code := { maxStack := 12, maxLocals := 2, code := prog_22_method_2_code, exceptionTable := #[], attributes := #[] }
def k3m1 : Method := { name := "plus", desc := "(Lcom/example/ensyn/ensyn/replay/TokenCounts;)Lcom/example/ensyn/ensyn/replay/TokenCounts;", sig := { parameters := [(.object "com/example/ensyn/ensyn/replay/TokenCounts")], returnType := some (.object "com/example/ensyn/ensyn/replay/TokenCounts") }, accessFlags := 1, code := some k3c1 }
def k3c2 : Code := { maxStack := 4, maxLocals := 1, code := prog_22_method_3_code, exceptionTable := #[], attributes := #[] }
def k3m2 : Method := { name := "fits", desc := "()Z", sig := { parameters := [], returnType := some .boolean }, accessFlags := 1, code := some k3c2 }
/-- com/example/ensyn/ensyn/replay/TokenCounts -/
def k3 : Class := { plain "com/example/ensyn/ensyn/replay/TokenCounts" (some 2) with
  accessFlags := 49
  interfaces := #[]
  cf := some (fileOf pool3 10 #[] #[{ accessFlags := 1, nameIndex := 5, descriptorIndex := 44, attributes := #[] }, { accessFlags := 1, nameIndex := 73, descriptorIndex := 74, attributes := #[] }, { accessFlags := 1, nameIndex := 75, descriptorIndex := 76, attributes := #[] }] 49 2 #[] #[{ accessFlags := 18, nameIndex := 25, descriptorIndex := 26, attributes := #[] }, { accessFlags := 18, nameIndex := 29, descriptorIndex := 26, attributes := #[] }, { accessFlags := 18, nameIndex := 32, descriptorIndex := 26, attributes := #[] }, { accessFlags := 18, nameIndex := 35, descriptorIndex := 26, attributes := #[] }, { accessFlags := 25, nameIndex := 67, descriptorIndex := 68, attributes := #[] }])
  fields := #[{ name := "consumed", type := .long, accessFlags := 18, slot := 0, constantValue := 0 }, { name := "produced", type := .long, accessFlags := 18, slot := 1, constantValue := 0 }, { name := "missing", type := .long, accessFlags := 18, slot := 2, constantValue := 0 }, { name := "remaining", type := .long, accessFlags := 18, slot := 3, constantValue := 0 }, { name := "NONE", type := (.object "com/example/ensyn/ensyn/replay/TokenCounts"), accessFlags := 25, slot := 0, constantValue := 0 }]
  methods := #[k3m0, k3m1, k3m2]
  instanceTypes := #[.long, .long, .long, .long]
  staticTypes := #[(.object "com/example/ensyn/ensyn/replay/TokenCounts")]
  resolved := Array.replicate 119 none
  statics := none }

def pool4 : Array CpInfo := pool [(1, .class_ 2), (0, u "java/lang/Math"), (1, .class_ 6), (1, u "java/lang/Object"), (0, u "<init>"), (0, u "()V"), (89, .class_ 100), (1, u "java/lang/Math$RandomNumberGeneratorHolder"), (20, u "(JJ)J"), (50, u "negativeZeroFloatBits"), (0, u "J"), (2, u "negativeZeroDoubleBits"), (68, u "$assertionsDisabled"), (0, u "Z"), (91, u "twoToTheDoubleScaleDown"), (0, u "D"), (4, u "twoToTheDoubleScaleUp"), (9, u "E"), (3, u "PI"), (2, u "TAU"), (2, u "DEGREES_TO_RADIANS"), (0, u "RADIANS_TO_DEGREES"), (27, u "addExact")] 66

def k4m0 : Method := { name := "<init>", desc := "()V", sig := { parameters := [], returnType := none }, accessFlags := 2, code := none }
def k4c1 : Code := { maxStack := 6, maxLocals := 6, code := jdk_29_method_25_code, exceptionTable := #[], attributes := #[] }
def k4m1 : Method := { name := "addExact", desc := "(JJ)J", sig := { parameters := [.long, .long], returnType := some .long }, accessFlags := 9, code := some k4c1 }
/-- java/lang/Math -/
def k4 : Class := { plain "java/lang/Math" (some 0) with
  accessFlags := 49
  interfaces := #[]
  cf := some (fileOf pool4 1 #[.nestMembers #[98]] #[{ accessFlags := 2, nameIndex := 7, descriptorIndex := 8, attributes := #[] }, { accessFlags := 9, nameIndex := 393, descriptorIndex := 121, attributes := #[] }] 49 4 #[] #[{ accessFlags := 25, nameIndex := 354, descriptorIndex := 339, attributes := #[] }, { accessFlags := 25, nameIndex := 358, descriptorIndex := 339, attributes := #[] }, { accessFlags := 25, nameIndex := 361, descriptorIndex := 339, attributes := #[] }, { accessFlags := 26, nameIndex := 364, descriptorIndex := 339, attributes := #[] }, { accessFlags := 26, nameIndex := 365, descriptorIndex := 339, attributes := #[] }, { accessFlags := 26, nameIndex := 172, descriptorIndex := 173, attributes := #[] }, { accessFlags := 26, nameIndex := 176, descriptorIndex := 173, attributes := #[] }, { accessFlags := 8, nameIndex := 344, descriptorIndex := 339, attributes := #[] }, { accessFlags := 8, nameIndex := 338, descriptorIndex := 339, attributes := #[] }, { accessFlags := 4120, nameIndex := 245, descriptorIndex := 246, attributes := #[] }])
  fields := #[{ name := "E", type := .double, accessFlags := 25, slot := 0, constantValue := 0 }, { name := "PI", type := .double, accessFlags := 25, slot := 1, constantValue := 0 }, { name := "TAU", type := .double, accessFlags := 25, slot := 2, constantValue := 0 }, { name := "DEGREES_TO_RADIANS", type := .double, accessFlags := 26, slot := 3, constantValue := 0 }, { name := "RADIANS_TO_DEGREES", type := .double, accessFlags := 26, slot := 4, constantValue := 0 }, { name := "negativeZeroFloatBits", type := .long, accessFlags := 26, slot := 5, constantValue := 0 }, { name := "negativeZeroDoubleBits", type := .long, accessFlags := 26, slot := 6, constantValue := 0 }, { name := "twoToTheDoubleScaleUp", type := .double, accessFlags := 8, slot := 7, constantValue := 0 }, { name := "twoToTheDoubleScaleDown", type := .double, accessFlags := 8, slot := 8, constantValue := 0 }, { name := "$assertionsDisabled", type := .boolean, accessFlags := 4120, slot := 9, constantValue := 0 }]
  methods := #[k4m0, k4m1]
  instanceTypes := #[]
  staticTypes := #[.double, .double, .double, .double, .double, .long, .long, .double, .double, .boolean]
  resolved := Array.replicate 460 none
  statics := none }

def pool5 : Array CpInfo := pool [(1, u "java/lang/Cloneable"), (0, .class_ 1), (0, u "java/lang/Object"), (0, .class_ 3)] 3

/-- java/lang/Cloneable -/
def k5 : Class := { plain "java/lang/Cloneable" (some 0) with
  accessFlags := 1537
  interfaces := #[]
  cf := some (fileOf pool5 2 #[] #[] 1537 4 #[] #[])
  fields := #[]
  methods := #[]
  instanceTypes := #[]
  staticTypes := #[]
  resolved := Array.replicate 8 none
  statics := none }

def pool6 : Array CpInfo := pool [(1, u "java/io/Serializable"), (0, .class_ 1), (0, u "java/lang/Object"), (0, .class_ 3)] 3

/-- java/io/Serializable -/
def k6 : Class := { plain "java/io/Serializable" (some 0) with
  accessFlags := 1537
  interfaces := #[]
  cf := some (fileOf pool6 2 #[] #[] 1537 4 #[] #[])
  fields := #[]
  methods := #[]
  instanceTypes := #[]
  staticTypes := #[]
  resolved := Array.replicate 8 none
  statics := none }

/-- the primitive byte -/
def k7 : Class := { plain "byte" none with kind := .primitive 'B', accessFlags := 0x411 }
/-- [B -/
def k8 : Class := { plain "[B" (some 0) with kind := .array 7 .byte, interfaces := #[5, 6], accessFlags := 1041 }

/-- the primitive int -/
def k9 : Class := { plain "int" none with kind := .primitive 'I', accessFlags := 0x411 }
/-- [I -/
def k10 : Class := { plain "[I" (some 0) with kind := .array 9 .int, interfaces := #[5, 6], accessFlags := 1041 }

def heap : Heap := #[]
def classes : Array Class := #[k0, k1, k2, k3, k4, k5, k6, k7, k8, k9, k10]
def interned : List (Array UInt16 × Addr) := []
def slotsUsed : Nat := 0
def theMethod : MethodId := ⟨1, 1⟩
def args0 : Array Value := #[.long 5, .long 3, .long 2, .int 0]
def aboutOver (below : List Frame) : State where
  vm := { classes := classes, interned := interned.toArray }
  heap := heap
  slotsUsed := slotsUsed
  threads := #[{ frames := .invoking theMethod args0 :: below }]
def below0 : List Frame := [.native { method := ⟨0, 0⟩, args := #[] }]
def about1 : State := aboutOver below0
def p0 : Program := .bare "" "" ""
def e0 : Env := launch0.env 0 0 0
theorem w_frames : about1.frames = Frame.invoking theMethod args0 :: below0 := rfl
set_option maxRecDepth 65536 in
theorem w_args : argsFit about1.vm theMethod args0 = true := by decide +kernel
set_option maxRecDepth 65536 in
theorem w_heap : heapFits about1 = true := by decide +kernel
set_option maxRecDepth 65536 in
theorem w_runnable : about1.curStatus? = some .runnable := by decide +kernel
set_option maxRecDepth 65536 in
theorem w_alone : about1.alone = true := by decide +kernel
set_option maxRecDepth 65536 in
theorem w_named : about1.methodNamed? x = some theMethod := by decide +kernel
set_option maxRecDepth 65536 in
theorem w_hears : about1.hears theMethod below0 = true := by decide +kernel
set_option maxRecDepth 65536 in
theorem w_ripe : about1.ripe theMethod args0 below0 = true := by decide +kernel
theorem w_running : about1.status = .running := rfl
set_option maxRecDepth 65536 in
theorem w_room : about1.hasRoom e0.platform room_1 = true :=
  launch0.hasRoom_least _ room_1 (by decide +kernel) (by decide +kernel) (by decide +kernel) (by decide +kernel) (by decide +kernel) (by decide +kernel)
theorem allAtoms_all (ts : List Jvm.Cond) (a : Array Jvm.Value) (st : Jvm.State) : (allAtoms ts).before a st = ts.all (fun c => c.before a st) := by
  induction ts with
  | nil => rfl
  | cons c t ih =>
    show (Jvm.Cond.and c (allAtoms t)).before a st = _
    rw [Jvm.Cond.before_and, ih, List.all_cons]
def words1 : List Jvm.Cond := Jvm.Cond.code x code maxLocals ret :: tables_1
/-- a 'code' word, met by the world's own term for the bytes: nothing is compared byte by byte -/
theorem code_word {y : MethodName} {bytes : ByteArray} {mx : Nat} {rt : Option FieldType} {a : Array Value} {s : State} {m : MethodId} {meth : Method} {c : Code} (h1 : s.methodNamed? y = some m) (h2 : s.vm.method? m = some meth) (h3 : meth.code = some c) (h4 : c.code = bytes)
    (h5 : (c.maxLocals == mx && c.exceptionTable.isEmpty && decide (c.maxStack ≤ mostOperands) && decide (meth.sig.returnType = rt) && !meth.locks && decide (parseMethodDescriptor y.desc = some meth.sig)) = true) : (Jvm.Cond.code y bytes mx rt).before a s = true := by
  simp only [Bool.and_eq_true, beq_iff_eq, Bool.not_eq_true', decide_eq_true_eq] at h5
  obtain ⟨⟨⟨⟨⟨g1, g2⟩, g3⟩, g4⟩, g5⟩, g6⟩ := h5
  simp [Cond.before, Cond.holds, Cond.value, h1, h2, h3, h4, g1, g2, g3, g4, g5, g6]
def isCode : Jvm.Cond → Bool
  | .code _ _ _ _ => true
  | _ => false
theorem all_split {L : List Jvm.Cond} {P : Jvm.Cond → Bool} (h1 : L.all (fun c => isCode c || P c) = true) (h2 : ∀ c ∈ L.filter isCode, P c = true) : L.all P = true := by
  refine List.all_eq_true.mpr fun c hc => ?_
  have h := List.all_eq_true.mp h1 c hc
  rcases Bool.eq_false_or_eq_true (isCode c) with hi | hi
  · exact h2 c (List.mem_filter.mpr ⟨hc, hi⟩)
  · simpa [hi] using h
set_option maxRecDepth 65536 in
theorem w_c0 : (Jvm.Cond.code x code maxLocals ret).before args0 about1 = true := code_word (m := ⟨1, 1⟩) (meth := k1m1) (c := k1c1) (by decide +kernel) rfl rfl rfl (by decide +kernel)
set_option maxRecDepth 65536 in
theorem w_c1 : (Jvm.Cond.code ({ cls := "com/example/ensyn/ensyn/replay/TokenCounts", name := "<init>", desc := "(JJJJ)V" } : Jvm.MethodName) prog_22_method_1_code (9 : Nat) (Option.none : Option Jvm.ClassFile.FieldType)).before args0 about1 = true := code_word (m := ⟨3, 0⟩) (meth := k3m0) (c := k3c0) (by decide +kernel) rfl rfl rfl (by decide +kernel)
set_option maxRecDepth 65536 in
theorem w_c2 : (Jvm.Cond.code ({ cls := "java/lang/Record", name := "<init>", desc := "()V" } : Jvm.MethodName) jdk_30_method_1_code (1 : Nat) (Option.none : Option Jvm.ClassFile.FieldType)).before args0 about1 = true := code_word (m := ⟨2, 0⟩) (meth := k2m0) (c := k2c0) (by decide +kernel) rfl rfl rfl (by decide +kernel)
set_option maxRecDepth 65536 in
theorem w_c3 : (Jvm.Cond.code ({ cls := "java/lang/Object", name := "<init>", desc := "()V" } : Jvm.MethodName) object_method_1_code (1 : Nat) (Option.none : Option Jvm.ClassFile.FieldType)).before args0 about1 = true := code_word (m := ⟨0, 0⟩) (meth := k0m0) (c := k0c0) (by decide +kernel) rfl rfl rfl (by decide +kernel)
set_option maxRecDepth 65536 in
theorem w_c4 : (Jvm.Cond.code ({ cls := "com/example/ensyn/ensyn/replay/TokenCounts", name := "plus", desc := "(Lcom/example/ensyn/ensyn/replay/TokenCounts;)Lcom/example/ensyn/ensyn/replay/TokenCounts;" } : Jvm.MethodName) prog_22_method_2_code (2 : Nat) (Option.some (Jvm.ClassFile.FieldType.object "com/example/ensyn/ensyn/replay/TokenCounts"))).before args0 about1 = true := code_word (m := ⟨3, 1⟩) (meth := k3m1) (c := k3c1) (by decide +kernel) rfl rfl rfl (by decide +kernel)
set_option maxRecDepth 65536 in
theorem w_c5 : (Jvm.Cond.code ({ cls := "java/lang/Math", name := "addExact", desc := "(JJ)J" } : Jvm.MethodName) jdk_29_method_25_code (6 : Nat) (Option.some Jvm.ClassFile.FieldType.long)).before args0 about1 = true := code_word (m := ⟨4, 1⟩) (meth := k4m1) (c := k4c1) (by decide +kernel) rfl rfl rfl (by decide +kernel)
set_option maxRecDepth 65536 in
theorem w_c6 : (Jvm.Cond.code ({ cls := "com/example/ensyn/ensyn/replay/TokenCounts", name := "fits", desc := "()Z" } : Jvm.MethodName) prog_22_method_3_code (1 : Nat) (Option.some Jvm.ClassFile.FieldType.boolean)).before args0 about1 = true := code_word (m := ⟨3, 2⟩) (meth := k3m2) (c := k3c2) (by decide +kernel) rfl rfl rfl (by decide +kernel)
def codes1 : List Jvm.Cond := [Jvm.Cond.code x code maxLocals ret, Jvm.Cond.code ({ cls := "com/example/ensyn/ensyn/replay/TokenCounts", name := "<init>", desc := "(JJJJ)V" } : Jvm.MethodName) prog_22_method_1_code (9 : Nat) (Option.none : Option Jvm.ClassFile.FieldType), Jvm.Cond.code ({ cls := "java/lang/Record", name := "<init>", desc := "()V" } : Jvm.MethodName) jdk_30_method_1_code (1 : Nat) (Option.none : Option Jvm.ClassFile.FieldType), Jvm.Cond.code ({ cls := "java/lang/Object", name := "<init>", desc := "()V" } : Jvm.MethodName) object_method_1_code (1 : Nat) (Option.none : Option Jvm.ClassFile.FieldType), Jvm.Cond.code ({ cls := "com/example/ensyn/ensyn/replay/TokenCounts", name := "plus", desc := "(Lcom/example/ensyn/ensyn/replay/TokenCounts;)Lcom/example/ensyn/ensyn/replay/TokenCounts;" } : Jvm.MethodName) prog_22_method_2_code (2 : Nat) (Option.some (Jvm.ClassFile.FieldType.object "com/example/ensyn/ensyn/replay/TokenCounts")), Jvm.Cond.code ({ cls := "java/lang/Math", name := "addExact", desc := "(JJ)J" } : Jvm.MethodName) jdk_29_method_25_code (6 : Nat) (Option.some Jvm.ClassFile.FieldType.long), Jvm.Cond.code ({ cls := "com/example/ensyn/ensyn/replay/TokenCounts", name := "fits", desc := "()Z" } : Jvm.MethodName) prog_22_method_3_code (1 : Nat) (Option.some Jvm.ClassFile.FieldType.boolean)]
set_option maxRecDepth 65536 in
theorem codes_eq : words1.filter isCode = codes1 := rfl
theorem w_codes : ∀ c ∈ words1.filter isCode, c.before args0 about1 = true := by
  rw [codes_eq]
  intro c hc
  simp only [codes1, List.mem_cons, List.not_mem_nil, or_false] at hc
  rcases hc with rfl | rfl | rfl | rfl | rfl | rfl | rfl
  · exact w_c0
  · exact w_c1
  · exact w_c2
  · exact w_c3
  · exact w_c4
  · exact w_c5
  · exact w_c6
set_option maxRecDepth 65536 in
theorem w_t1 : (words1.take 24).all (fun c => isCode c || c.before args0 about1) = true := by decide +kernel
set_option maxRecDepth 65536 in
theorem w_t2 : (words1.drop 24).all (fun c => isCode c || c.before args0 about1) = true := by decide +kernel
theorem w_tables : (allAtoms (Jvm.Cond.code x code maxLocals ret :: tables_1)).before args0 about1 = true := by
  rw [allAtoms_all]
  show words1.all (fun c => c.before args0 about1) = true
  refine all_split ?_ w_codes
  rw [← List.take_append_drop 24 words1, List.all_append, w_t1, w_t2]
  rfl
set_option maxRecDepth 65536 in
theorem w_case : (Jvm.Cond.and given_1 narrow_1).before args0 about1 = true := by decide +kernel
theorem w_applies : (headSpec (Jvm.Cond.code x code maxLocals ret :: tables_1) room_1).applies x e0.platform about1 = true :=
  (Spec.applies_iff w_frames).mpr ⟨w_running, w_runnable, w_alone, w_named, w_hears, w_ripe, w_room, w_tables⟩
theorem atStart : AtStart classFile x code maxLocals ret World_1 tables_1 room_1 Calls_1 rest_1 Pre_1 launch0 p0 e0 about1 theMethod args0 below0 :=
  ⟨lists_1, trivial, launch0.admits_env _ _ _, launch0.least_env, fairChoices_fair.cas, fairChoices_fair.clock, w_frames, w_args, w_heap, w_applies, trivial, trivial, w_case⟩
end start1
theorem witness_1 : WitnessClaimed_1 := ⟨start1.p0, start1.e0, start1.about1, start1.theMethod, start1.args0, start1.below0, start1.atStart⟩
end Jvm.Pilot.@@N@@
