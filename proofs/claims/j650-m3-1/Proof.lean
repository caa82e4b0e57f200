import JvmDerived
import JvmDerived.Pilot.@@N@@Statement
import JvmDerived.Pilot.@@N@@Code
set_option linter.unusedVariables false
set_option linter.unusedSimpArgs false
namespace Jvm.RoadKit
open Sem ClassFile Op Lib Jvm.Stand Jvm.Free Jvm.LawKit
section New
variable {p : Program} {l : Launch} {e : Env} {R : Room} {s : State} {m : MethodId} {args : Array Value} {below : List Frame} {meth : Method} {c : Code} {T : State} {locs : List Loc} {cells slots : Nat}
theorem retI (X : Stand p l e R s m args below meth c T locs cells slots) (hx : p.tables.exec = Jvm.exec) {pc : Nat} {Ls : Array Slot} {z : Int32} {rest : List Value} (hret : meth.sig.returnType = some .int) (hd : decode c.code pc = .ok (.ireturn, 1)) {fs : List Frame}
    (hl : ∀ (f : JFrame) (acts : List Action), f.method = m → f.locked = none → f.entered = [] → (doReturn e (T.setTop f) acts (some (.int z))).1 = T.setFrames fs) : Steps p.tables e below (T.setTop (mkF m pc Ls (.int z :: rest))) (T.setFrames fs) := by
  have hm' : T.vm.method? m = some meth := X.method'
  have hn : narrow .int (.int z) = .int z := rfl
  show Steps p.tables e below (T.setTop { method := m, pc := pc, locals := Ls, stack := _ :: rest, locked := none }) _
  jvm_step X.here [X.here.top, hx, hd, hm', hret, hn]
  first | (intro acts; rw [hl _ acts rfl rfl rfl]) | rw [hl _ _ rfl rfl rfl]
  exact Steps.refl _
theorem lremM {g : JFrame} {target : State} (X : Stand p l e R s m args below meth c T locs cells slots) (hx : p.tables.exec = Jvm.exec) (hg : g.method = m) {x y : Int64} {rest : List Value} (hd : decode c.code g.pc = .ok (.lrem, 1)) (hs : g.stack = .long y :: .long x :: rest) (hy : y ≠ 0)
    (hr : Steps p.tables e below (T.setTop { g with pc := g.pc + 1, stack := .long (x % y) :: rest }) target) : Steps p.tables e below (T.setTop g) target := by
  have q : x - x / y * y = x % y := lrem_mod x y
  exact XS.lrem X.here hx hg hd hs hy (by rw [q]; exact hr)
/-- from the state t the invocation ends as Q says -/
def Done (p : Program) (e : Env) (below : List Frame) (Q : Outcome → State → Prop) (t : State) : Prop := ∃ s₂ o, Steps p.tables e below t s₂ ∧ s₂.status = .running ∧ Ended s₂ below o ∧ Q o s₂
theorem Done.of {p : Program} {e : Env} {below : List Frame} {Q : Outcome → State → Prop} {t t' : State} (h : Done p e below Q t') (k : ∀ target, Steps p.tables e below t' target → Steps p.tables e below t target) : Done p e below Q t := by
  obtain ⟨s₂, o, h1, h2⟩ := h
  exact ⟨s₂, o, k _ h1, h2⟩
end New
end Jvm.RoadKit
namespace Jvm.Pilot.@@N@@
open Jvm Jvm.ClassFile Sem Op Lib Jvm.Free Jvm.Stand Jvm.LawKit Jvm.RoadKit Bundle Jvm.Pilot.@@N@@.Jvm.D
theorem own_eqint {args : Array Value} {s : State} {t : Term} {k : Int32} (h : (Jvm.Cond.eq t (.int k)).value args s none s [] = some true) : t.eval args s none [] s = some (.int k) := by
  simp only [Cond.value, Term.eval] at h
  cases ht : t.eval args s none [] s with
  | none => simp [ht] at h
  | some x => cases x <;> simp [ht] at h ⊢; exact h

def own_OC (Z : State) (EL : List (String × Nat)) (vm : Vm) (h : Heap) (n0 : Nat) : Prop := CHv Z EL vm h ∧ ∀ y, Bk Z EL vm h y → y < n0
theorem own_OC_ext {Z : State} {EL : List (String × Nat)} {vm : Vm} {h h' : Heap} {n0 : Nat} (H : own_OC Z EL vm h n0) (E : Ext h h') : own_OC Z EL vm h' n0 := ⟨H.1.ext E, fun y q => H.2 y ((H.1.step fun _ _ _ q => E.2 _ _ q).2 y q)⟩
theorem own_OC_safe {Z : State} {EL : List (String × Nat)} {vm : Vm} {h : Heap} {n0 : Nat} (H : own_OC Z EL vm h n0) {a : Addr} (g : n0 ≤ a) : Safe Z EL vm h a := fun B => absurd (H.2 a B) (Nat.not_lt.mpr g)
theorem own_OC_wr {Z : State} {EL : List (String × Nat)} {vm : Vm} {h h' : Heap} {n0 : Nat} (H : own_OC Z EL vm h n0) {a : Addr} {sl : Nat} {v : Value} (W : Wr h h' a sl v) (g : n0 ≤ a) : own_OC Z EL vm h' n0 := ⟨H.1.wr W (own_OC_safe H g), fun y q => H.2 y ((H.1.wrStep W (own_OC_safe H g)).2 y q)⟩
theorem own_OC_keep {Z : State} {EL : List (String × Nat)} {vm : Vm} {h h' : Heap} {n0 : Nat} (H : own_OC Z EL vm h n0) {ws : List Addr} (K : Keep h h' ws) (g : ∀ x ∈ ws, n0 ≤ x) : own_OC Z EL vm h' n0 := ⟨H.1.keep K fun x hx => own_OC_safe H (g x hx), fun y q => H.2 y ((H.1.keepStep K fun x hx => own_OC_safe H (g x hx)).2 y q)⟩
theorem own_OC_start {Z : State} {EL : List (String × Nat)} (H : CHv Z EL Z.vm Z.heap) : own_OC Z EL Z.vm Z.heap Z.heap.size := ⟨H, fun y B => by
  obtain ⟨cell, q⟩ := B.there
  exact (Array.getElem?_eq_some_iff.mp q).1⟩
theorem own_OC_at {p : Program} {l : Launch} {e : Env} {R : Room} {s : State} {m : MethodId} {args : Array Value} {below : List Frame} {meth : Method} {c : Code} {T : State} {locs : List Loc} {cells slots : Nat} {Z : State} {a0 : Array Value} {EL : List (String × Nat)} {h : Heap} {vm0 : Vm} {n0 : Nat} (X : Stand p l e R (s.setVm vm0) m args below meth c T locs cells slots) (hZ : Z.Warmed39 vm0) (w : EW Z a0 EL) (H : own_OC Z EL vm0 h n0) : own_OC Z EL T.vm h n0 := by
  have A := CHv.at X hZ w H.1
  refine ⟨A.1, fun y B => ?_⟩
  rcases A.2.2 y B with q | q
  · exact H.2 y q
  · obtain ⟨cell, r⟩ := B.there
    exact absurd (Array.getElem?_eq_some_iff.mp r).1 (Nat.not_lt.mpr q)
theorem own_backW {p : Program} {l : Launch} {e : Env} {R : Room} {s : State} {args : Array Value} {below : List Frame} {Z : State} {a0 : Array Value} {EL : List (String × Nat)} {h : Heap} {vm0 : Vm} {n0 : Nat} {y : MethodName} {bytes : ByteArray} {maxL : Nat} {ret : Option FieldType} {rm : Room} {len W : Nat} {as' : Array Value} {Q : Option Value → Heap → List Loc → Prop}
    (hM : MetFree l y (head1 [Jvm.Cond.code y bytes maxL ret] rm) (fun a U => a = as' ∧ Z.Warmed39 U.vm ∧ U.heap = h ∧ own_OC Z EL U.vm h n0) (fun _ _ _ _ _ => True) (fun _ U o U' => ∃ v L, o = .returned v ∧ Q v U'.heap L ∧ ReturnedEndW U o U' L rm.cells rm.slots))
    (hZ : Z.Warmed39 vm0) (wc : (Jvm.Cond.code y bytes maxL ret).before a0 Z = true) (wz : (Jvm.Cond.initialized y.cls).before a0 Z = true) (hf : rm.frames + 1 ≤ R.frames) (hl : W + (maxL + 11) + rm.locals ≤ R.locals) (hEL : EW Z a0 EL) (H : own_OC Z EL vm0 h n0) :
    BackS l R p e below (s.setVm vm0) args y len W (fun A a => a = as' ∧ A.U.heap = h ∧ A.cells + rm.cells ≤ R.cells ∧ A.slots + rm.slots ≤ R.slots)
      (fun A _ v B => ∃ L, Q v B.U.heap L ∧ B.locs = A.locs ++ L ∧ B.cells = A.cells + rm.cells ∧ B.slots = A.slots + rm.slots) :=
  BackS.of_freeW (bytes := bytes) (maxL := maxL) (ret := ret) (E := fun _ _ o t L k n => k = rm.cells ∧ n = rm.slots ∧ ∃ v, o = .returned v ∧ Q v t.heap L) hM hf hl
    (fun m meth c A a Y hp => have hU : Z.Warmed39 A.U.vm := wtrans (s := s.setVm vm0) hZ Y.warmed
      ⟨by show (Jvm.Cond.and _ .tt).before a A.U = true; rw [Cond.before_and, mv hU wc]; rfl, mv hU wc, mv hU wz, hp.2.2.1, hp.2.2.2⟩)
    (fun m meth c A a g mk Y hp => ⟨hp.1, wtrans (s := s.setVm vm0) hZ Y.warmed, hp.2.1, (show own_OC Z EL A.U.vm h n0 from own_OC_at Y hZ hEL H)⟩) (fun _ _ _ _ _ _ _ _ _ => trivial)
    (fun _ _ _ _ ⟨v, L, h1, h2, h3⟩ => ⟨L, _, _, h3, rfl, rfl, v, h1, h2⟩)
    (fun m meth c A a g mk v t L k n Y hp _ _ ⟨e1, e2, v', e3, e4⟩ => by cases e3; subst e1 e2; exact ⟨L, e4, rfl, rfl, rfl⟩)

theorem own_ch (x : Int32) : ¬ (255 : Int32) < ((x &&& (255 : Int32)).toUInt32.toUInt16.toUInt32.toInt32) := by
  have h := c_mask x (255 : Int32) 8 (by decide) (by decide)
  have h2 := c_i2c (x &&& (255 : Int32))
  rw [Int32.lt_iff_toInt_lt, show (255 : Int32).toInt = 255 from by decide]
  omega
theorem own_cc {x : Int32} (h : ¬ (255 : Int32) < x) (h0 : ¬ x < (0 : Int32)) : (x.toUInt32.toUInt16.toUInt32.toInt32) = x := by
  have h2 := c_i2c x
  rw [Int32.lt_iff_toInt_lt] at h h0
  rw [show (255 : Int32).toInt = 255 from by decide] at h
  rw [show (0 : Int32).toInt = 0 from by decide] at h0
  apply Int32.toInt_inj.mp
  omega
theorem own_cl (x : Int32) : ¬ (255 : Int32) < (((x &&& (255 : Int32)).toUInt32.toUInt16.toUInt32.toInt32).toUInt32.toUInt16.toUInt32.toInt32) := by
  have h := c_mask x (255 : Int32) 8 (by decide) (by decide)
  have h2 := c_i2c (x &&& (255 : Int32))
  have h3 := c_i2c ((x &&& (255 : Int32)).toUInt32.toUInt16.toUInt32.toInt32)
  rw [Int32.lt_iff_toInt_lt, show (255 : Int32).toInt = 255 from by decide]
  omega
theorem own_idx {i k : Int32} (h : i = ((k &&& (2147483647 : Int32)) % (20 : Int32))) : ∃ n : Nat, n < 20 ∧ i.toInt = (n : Int) := by
  have h1 := c_mask k (2147483647 : Int32) 31 (by decide) (by decide)
  have h2 := (c_irem (k &&& (2147483647 : Int32)) (20 : Int32) 20 (by decide)).1 (by omega)
  refine ⟨i.toInt.toNat, ?_, ?_⟩ <;> rw [h] <;> omega
theorem own_clamp {i : Int32} {n : Nat} (h : i.toInt = (n : Int)) : i.toNatClampNeg = n := by
  show i.toInt.toNat = n
  omega
theorem own_neg {i : Int32} {n : Nat} (h : i.toInt = (n : Int)) : ¬ i < 0 := by
  rw [Int32.lt_iff_toInt_lt, show (0 : Int32).toInt = 0 from by decide]
  omega
theorem own_20 : (20 : Int32).toNatClampNeg = 20 := by decide
theorem own_g (A : Nat → Addr) (n : Nat) (h : n < 20) (d : Value) : ([(.ref (A 0)), (.ref (A 1)), (.ref (A 2)), (.ref (A 3)), (.ref (A 4)), (.ref (A 5)), (.ref (A 6)), (.ref (A 7)), (.ref (A 8)), (.ref (A 9)), (.ref (A 10)), (.ref (A 11)), (.ref (A 12)), (.ref (A 13)), (.ref (A 14)), (.ref (A 15)), (.ref (A 16)), (.ref (A 17)), (.ref (A 18)), (.ref (A 19))] : List Value).getD n d = .ref (A n) := by
  match n, h with
  | 0, _ => rfl
  | 1, _ => rfl
  | 2, _ => rfl
  | 3, _ => rfl
  | 4, _ => rfl
  | 5, _ => rfl
  | 6, _ => rfl
  | 7, _ => rfl
  | 8, _ => rfl
  | 9, _ => rfl
  | 10, _ => rfl
  | 11, _ => rfl
  | 12, _ => rfl
  | 13, _ => rfl
  | 14, _ => rfl
  | 15, _ => rfl
  | 16, _ => rfl
  | 17, _ => rfl
  | 18, _ => rfl
  | 19, _ => rfl
  | m + 20, q => exact absurd q (by omega)
theorem d7_0 : decode jdk_30_method_1_code 0 = .ok (.aload_n 0, 1) := by decide +kernel
theorem d7_1 : decode jdk_30_method_1_code 1 = .ok (.invokespecial 1, 3) := by decide +kernel
theorem d7_4 : decode jdk_30_method_1_code 4 = .ok (.return_, 1) := by decide +kernel
theorem pn_7 : plainName "java/lang/Record" = true := by first | (simp [plainName, overriddenIn]; done) | decide +kernel
theorem ef_7 (m : MethodId) (u0 : Addr)  : entryFrame m #[(.ref u0)] 1 = mkF m 0 #[.val (.ref u0)] [] := by first | (simp [entryFrame, mkF, argsToLocals, Value.category]; done) | rfl
def Q7 (Z : State) (u0 : Addr) (h0 : Heap) (n0 : Nat) (v : Option Value) (h : Heap) (L : List Loc) : Prop := v = none ∧ Fr n0 L ∧ h = h0
set_option maxRecDepth 65536 in
set_option maxHeartbeats 40000000 in
theorem rm7 (l : Launch) (Z : State) (a0 : Array Value) (hw : ∀ d ∈ tables_1, d.before a0 Z = true) (ws : List Jvm.Cond) (u0 : Addr) (h0 : Heap) (n0 : Nat) (Z0 : n0 ≤ h0.size) :
    MetFree l (⟨"java/lang/Record", "<init>", "()V"⟩ : MethodName) (head1 (Jvm.Cond.code (⟨"java/lang/Record", "<init>", "()V"⟩ : MethodName) jdk_30_method_1_code 1 none :: ws) ({ frames := 1, cells := 0, slots := 0, locals := 12 } : Room)) (fun a U => a = #[(.ref u0)] ∧ Z.Warmed39 U.vm ∧ U.heap = h0) (fun _ _ _ _ _ => True) (fun _ U o U' => ∃ v L, o = .returned v ∧ Q7 Z u0 h0 n0 v U'.heap L ∧ FrameEnd U o U' L ({ frames := 1, cells := 0, slots := 0, locals := 12 } : Room).cells ({ frames := 1, cells := 0, slots := 0, locals := 12 } : Room).slots) := by
  refine MetFree.of_bodySF (plainFor_of_name pn_7) hisR ?_
  intro p e s m args below meth c s₁ Bd hml0 hP hK
  obtain ⟨rfl, hZ, hh⟩ := hP
  have hx := Bd.exec
  have hby := Bd.bytes
  have hml : c.maxLocals = 1 := hml0
  have hown : s.vm.findClass "java/lang/Record" = some m.cls := findClass_of_methodNamed Bd.named
  have hnm := (name_of_methodNamed Bd.named Bd.method).1
  have X0 : Stand p l e ({ frames := 1, cells := 0, slots := 0, locals := 12 } : Room) s m #[(.ref u0)] below meth c s₁ [] 0 0 := Stand.of_body Bd
  have e0 : s₁.heap = h0 := by rw [← hh, Bd.state]; rfl
  have N0 := Fr.nil n0
  have pre0 : ∀ t, Steps p.tables e below (s₁.setTop (mkF m 0 #[.val (.ref u0)] [])) t → Steps p.tables e below (s₁.setTop (entryFrame m #[(.ref u0)] 1)) t := fun t k => castTop (ef_7 m u0) k
  show Done p e below _ _
  refine Done.of ?_ pre0
  obtain ⟨T1, X1, e1, st1⟩ := initO X0 hx hZ hown (hw _ (List.mem_of_getElem? (i := 82) rfl)) (hw _ (List.mem_of_getElem? (i := 65) rfl)) (hw _ (List.mem_of_getElem? (i := 66) rfl)) e0 (g := (mkF m 1 #[.val (.ref u0)] [(.ref u0)])) rfl (by rw [hml]; rfl) rfl (hb hby d7_1) (by decide) (W := 0) (by show 2 * 0 + _ ≤ _; exact Nat.le_of_eq rfl) (by decide)
  obtain ⟨fs, hr, hrun, hended, hW, hsame⟩ := X1.leave (v := none) (fun _ => rfl)
  refine ⟨_, _, ?_, hrun, hended, _, _, rfl, ?_, ⟨_, rfl⟩, hW, hsame.mono (by decide) (by decide)⟩
  · show Steps p.tables e below (s₁.setTop (mkF m 0 #[.val (.ref u0)] [])) _
    refine XS.aloadN X0.here hx rfl (hb hby d7_0) rfl rfl ?_
    show Steps p.tables e below (s₁.setTop (mkF m 1 #[.val (.ref u0)] [(.ref u0)])) _
    refine st1 _ ?_
    show Steps p.tables e below (T1.setTop (mkF m 4 #[.val (.ref u0)] [])) _
    exact X1.returnOut hx Bd.returns (hb hby d7_4) hr
  · show Q7 Z u0  h0 n0 _ T1.heap _
    rw [e1]
    refine ⟨?_, N0, rfl⟩
    rfl
theorem d2_0 : decode jdk_43_method_3_code 0 = .ok (.iload_n 0, 1) := by decide +kernel
theorem d2_1 : decode jdk_43_method_3_code 1 = .ok (.sipush 255, 3) := by decide +kernel
theorem d2_4 : decode jdk_43_method_3_code 4 = .ok (.if_icmp .gt 7, 3) := by decide +kernel
theorem d2_7 : decode jdk_43_method_3_code 7 = .ok (.iconst 1, 1) := by decide +kernel
theorem d2_8 : decode jdk_43_method_3_code 8 = .ok (.goto 4, 3) := by decide +kernel
theorem d2_11 : decode jdk_43_method_3_code 11 = .ok (.iconst 0, 1) := by decide +kernel
theorem d2_12 : decode jdk_43_method_3_code 12 = .ok (.ireturn, 1) := by decide +kernel
theorem pn_2 : plainName "java/lang/StringLatin1" = true := by first | (simp [plainName, overriddenIn]; done) | decide +kernel
theorem ef_2 (m : MethodId) (p0 : Int32)  : entryFrame m #[(.int p0)] 1 = mkF m 0 #[.val (.int p0)] [] := by first | (simp [entryFrame, mkF, argsToLocals, Value.category]; done) | rfl
def Q2 (Z : State) (p0 : Int32) (h0 : Heap) (n0 : Nat) (v : Option Value) (h : Heap) (L : List Loc) : Prop := v = some (.int (if (255 : Int32) < p0 then (0 : Int32) else (1 : Int32))) ∧ Fr n0 L ∧ h = h0
set_option maxRecDepth 65536 in
set_option maxHeartbeats 40000000 in
theorem rm2 (l : Launch) (Z : State) (a0 : Array Value) (hw : ∀ d ∈ tables_1, d.before a0 Z = true) (ws : List Jvm.Cond) (p0 : Int32) (h0 : Heap) (n0 : Nat) (Z0 : n0 ≤ h0.size) :
    MetFree l (⟨"java/lang/StringLatin1", "canEncode", "(C)Z"⟩ : MethodName) (head1 (Jvm.Cond.code (⟨"java/lang/StringLatin1", "canEncode", "(C)Z"⟩ : MethodName) jdk_43_method_3_code 1 (some .boolean) :: ws) ({ frames := 0, cells := 0, slots := 0, locals := 0 } : Room)) (fun a U => a = #[(.int p0)] ∧ Z.Warmed39 U.vm ∧ U.heap = h0) (fun _ _ _ _ _ => True) (fun _ U o U' => ∃ v L, o = .returned v ∧ Q2 Z p0 h0 n0 v U'.heap L ∧ FrameEnd U o U' L ({ frames := 0, cells := 0, slots := 0, locals := 0 } : Room).cells ({ frames := 0, cells := 0, slots := 0, locals := 0 } : Room).slots) := by
  refine MetFree.of_bodySF (plainFor_of_name pn_2) hisR ?_
  intro p e s m args below meth c s₁ Bd hml0 hP hK
  obtain ⟨rfl, hZ, hh⟩ := hP
  have hx := Bd.exec
  have hby := Bd.bytes
  have hml : c.maxLocals = 1 := hml0
  have hown : s.vm.findClass "java/lang/StringLatin1" = some m.cls := findClass_of_methodNamed Bd.named
  have hnm := (name_of_methodNamed Bd.named Bd.method).1
  have X0 : Stand p l e ({ frames := 0, cells := 0, slots := 0, locals := 0 } : Room) s m #[(.int p0)] below meth c s₁ [] 0 0 := Stand.of_body Bd
  have e0 : s₁.heap = h0 := by rw [← hh, Bd.state]; rfl
  have N0 := Fr.nil n0
  have pre0 : ∀ t, Steps p.tables e below (s₁.setTop (mkF m 0 #[.val (.int p0)] [])) t → Steps p.tables e below (s₁.setTop (entryFrame m #[(.int p0)] 1)) t := fun t k => castTop (ef_2 m p0) k
  show Done p e below _ _
  refine Done.of ?_ pre0
  have J4_1 : ∀ wj : Int32, wj = (if (255 : Int32) < p0 then (0 : Int32) else (1 : Int32)) → ∀ target, Steps p.tables e below (s₁.setTop (mkF m 12 #[.val (.int p0)] [(.int wj)])) target → Steps p.tables e below (s₁.setTop (mkF m 4 #[.val (.int p0)] [(.int (255 : Int32)), (.int p0)])) target := by
    intro wj hw0 target kt
    by_cases hj4 : (255 : Int32) < p0
    · rw [if_pos hj4] at hw0
      show Steps p.tables e below (s₁.setTop (mkF m 4 #[.val (.int p0)] [(.int (255 : Int32)), (.int p0)])) _
      refine XS.icmpYes X0.here hx rfl (pc0 := 4) (pc' := 11) rfl (hb hby d2_4) rfl (tlt hj4).2.2.1 (by decide) (by decide) ?_
      show Steps p.tables e below (s₁.setTop (mkF m 11 #[.val (.int p0)] [])) _
      refine XS.iconst X0.here hx rfl (hb hby d2_11) ?_
      rw [hw0] at kt
      exact kt
    · rw [if_neg hj4] at hw0
      show Steps p.tables e below (s₁.setTop (mkF m 4 #[.val (.int p0)] [(.int (255 : Int32)), (.int p0)])) _
      refine XS.icmpNo X0.here hx rfl (hb hby d2_4) rfl (flt hj4).2.2.1 ?_
      show Steps p.tables e below (s₁.setTop (mkF m 7 #[.val (.int p0)] [])) _
      refine XS.iconst X0.here hx rfl (hb hby d2_7) ?_
      show Steps p.tables e below (s₁.setTop (mkF m 8 #[.val (.int p0)] [(.int (1 : Int32))])) _
      refine XS.goto X0.here hx rfl (pc0 := 8) (pc' := 12) rfl (hb hby d2_8) (by decide) (by decide) ?_
      rw [hw0] at kt
      exact kt
  obtain ⟨fs, hr, hrun, hended, hW, hsame⟩ := X0.leave (v := some (.int (nar .boolean (if (255 : Int32) < p0 then (0 : Int32) else (1 : Int32))))) (fun h => by rw [Bd.returns] at h; cases h)
  refine ⟨_, _, ?_, hrun, hended, _, _, rfl, ?_, ⟨_, rfl⟩, hW, hsame.mono (by decide) (by decide)⟩
  · show Steps p.tables e below (s₁.setTop (mkF m 0 #[.val (.int p0)] [])) _
    refine XS.iloadN X0.here hx rfl (hb hby d2_0) rfl ?_
    show Steps p.tables e below (s₁.setTop (mkF m 1 #[.val (.int p0)] [(.int p0)])) _
    refine XS.sipush X0.here hx rfl (hb hby d2_1) ?_
    show Steps p.tables e below (s₁.setTop (mkF m 4 #[.val (.int p0)] [(.int (255 : Int32)), (.int p0)])) _
    refine J4_1 _ rfl _ ?_
    show Steps p.tables e below (s₁.setTop (mkF m 12 #[.val (.int p0)] [(.int (if (255 : Int32) < p0 then (0 : Int32) else (1 : Int32)))])) _
    exact retN X0 hx (t := .boolean) Bd.returns (by simp) (hb hby d2_12) hr
  · show Q2 Z p0  h0 n0 _ s₁.heap _
    rw [e0]
    refine ⟨?_, N0, rfl⟩
    ((repeat' split) <;> rfl)
theorem d3_0 : decode jdk_43_method_46_code 0 = .ok (.iconst 1, 1) := by decide +kernel
theorem d3_1 : decode jdk_43_method_46_code 1 = .ok (.newarray .byte, 2) := by decide +kernel
theorem d3_3 : decode jdk_43_method_46_code 3 = .ok (.dup, 1) := by decide +kernel
theorem d3_4 : decode jdk_43_method_46_code 4 = .ok (.iconst 0, 1) := by decide +kernel
theorem d3_5 : decode jdk_43_method_46_code 5 = .ok (.iload_n 0, 1) := by decide +kernel
theorem d3_6 : decode jdk_43_method_46_code 6 = .ok (.i2b, 1) := by decide +kernel
theorem d3_7 : decode jdk_43_method_46_code 7 = .ok (.bastore, 1) := by decide +kernel
theorem d3_8 : decode jdk_43_method_46_code 8 = .ok (.areturn, 1) := by decide +kernel
theorem pn_3 : plainName "java/lang/StringLatin1" = true := by first | (simp [plainName, overriddenIn]; done) | decide +kernel
theorem ef_3 (m : MethodId) (p0 : Int32)  : entryFrame m #[(.int p0)] 1 = mkF m 0 #[.val (.int p0)] [] := by first | (simp [entryFrame, mkF, argsToLocals, Value.category]; done) | rfl
def Q3 (Z : State) (p0 : Int32) (h0 : Heap) (n0 : Nat) (v : Option Value) (h : Heap) (L : List Loc) : Prop := ∃ b : Addr, v = some (.ref b) ∧ Fr n0 L ∧ Keep h0 h []
set_option maxRecDepth 65536 in
set_option maxHeartbeats 40000000 in
theorem rm3 (l : Launch) (Z : State) (a0 : Array Value) (hw : ∀ d ∈ tables_1, d.before a0 Z = true) (ws : List Jvm.Cond) (p0 : Int32) (h0 : Heap) (n0 : Nat) (Z0 : n0 ≤ h0.size) :
    MetFree l (⟨"java/lang/StringLatin1", "toBytes", "(C)[B"⟩ : MethodName) (head1 (Jvm.Cond.code (⟨"java/lang/StringLatin1", "toBytes", "(C)[B"⟩ : MethodName) jdk_43_method_46_code 1 (some (.array .byte)) :: ws) ({ frames := 0, cells := 1, slots := 1, locals := 0 } : Room)) (fun a U => a = #[(.int p0)] ∧ Z.Warmed39 U.vm ∧ U.heap = h0) (fun _ _ _ _ _ => True) (fun _ U o U' => ∃ v L, o = .returned v ∧ Q3 Z p0 h0 n0 v U'.heap L ∧ FrameEnd U o U' L ({ frames := 0, cells := 1, slots := 1, locals := 0 } : Room).cells ({ frames := 0, cells := 1, slots := 1, locals := 0 } : Room).slots) := by
  refine MetFree.of_bodySF (plainFor_of_name pn_3) hisR ?_
  intro p e s m args below meth c s₁ Bd hml0 hP hK
  obtain ⟨rfl, hZ, hh⟩ := hP
  have hx := Bd.exec
  have hby := Bd.bytes
  have hml : c.maxLocals = 1 := hml0
  have hown : s.vm.findClass "java/lang/StringLatin1" = some m.cls := findClass_of_methodNamed Bd.named
  have hnm := (name_of_methodNamed Bd.named Bd.method).1
  have X0 : Stand p l e ({ frames := 0, cells := 1, slots := 1, locals := 0 } : Room) s m #[(.int p0)] below meth c s₁ [] 0 0 := Stand.of_body Bd
  have e0 : s₁.heap = h0 := by rw [← hh, Bd.state]; rfl
  have N0 := Fr.nil n0
  have pre0 : ∀ t, Steps p.tables e below (s₁.setTop (mkF m 0 #[.val (.int p0)] [])) t → Steps p.tables e below (s₁.setTop (entryFrame m #[(.int p0)] 1)) t := fun t k => castTop (ef_3 m p0) k
  show Done p e below _ _
  refine Done.of ?_ pre0
  obtain ⟨T1, h1, k1, X1, e1, E1, A1, st1⟩ := newP X0 hx hZ (hw _ (List.mem_of_getElem? (i := 59) rfl)) e0 (g := (mkF m 1 #[.val (.int p0)] [(.int (1 : Int32))])) rfl (hb hby d3_1) rfl (by decide) (cap := 1) (by decide) (by decide) (by decide) (by decide)
  obtain ⟨b1, g1⟩ : ∃ z, z = h0.size := ⟨_, rfl⟩
  rw [← g1] at A1 st1
  have gnb1 : n0 ≤ b1 := Nat.le_trans Z0 (Nat.le_of_eq g1.symm)
  have Z1 : n0 ≤ h1.size := Nat.le_trans Z0 E1.1
  have szb1 : h0.size ≤ b1 := Nat.le_trans (Keep.refl h0 []).1 (Nat.le_of_eq g1.symm)
  have Kp1 := (Keep.refl h0 []).ext E1
  have V1 : Arv Z h1 b1 k1 .byte (1 : Int32) [(.int (0 : Int32))] (.int (0 : Int32)) := (Arv.new A1 (by decide)).pad (pad_rep [] (.int (0 : Int32)) 1)
  obtain ⟨cl2, Ar2, qq2, S2, M2, H2, G2⟩ := id V1
  have hin2 : ¬ ((0 : Int32) < 0 ∨ cl2.slots.size ≤ ((0 : Int32)).toNatClampNeg) := inb_of S2 ⟨by decide, by decide⟩
  obtain ⟨T3, h3, X3, e3, W3, st3⟩ := stB X1 hx hZ e1 Ar2 (j := (0 : Int32)) hin2 (g := (mkF m 7 #[.val (.int p0)] [(.int (p0.toInt8.toInt32)), (.int (0 : Int32)), (.ref b1), (.ref b1)])) rfl rfl (hb hby d3_7)
  have V3 : Arv Z h3 b1 k1 .byte (1 : Int32) [(.int ((p0.toInt8.toInt32).toInt8.toInt32))] _ := Arv.set Ar2 qq2 S2 M2 H2 G2 (fits_nar_byte _) W3 0 rfl (Nat.le_of_ble_eq_true rfl)
  have N3 := Fr.snoc X3 N0 gnb1
  have Z3 : n0 ≤ h3.size := Nat.le_trans Z1 (Nat.le_of_eq W3.size.symm)
  have Kp3 := Kp1.wr W3 (Or.inr szb1)
  obtain ⟨fs, hr, hrun, hended, hW, hsame⟩ := X3.leave (v := some (.ref b1)) (fun h => by rw [Bd.returns] at h; cases h)
  refine ⟨_, _, ?_, hrun, hended, _, _, rfl, ?_, ⟨_, rfl⟩, hW, hsame.mono (by decide) (by decide)⟩
  · show Steps p.tables e below (s₁.setTop (mkF m 0 #[.val (.int p0)] [])) _
    refine XS.iconst X0.here hx rfl (hb hby d3_0) ?_
    show Steps p.tables e below (s₁.setTop (mkF m 1 #[.val (.int p0)] [(.int (1 : Int32))])) _
    refine st1 _ ?_
    show Steps p.tables e below (T1.setTop (mkF m 3 #[.val (.int p0)] [(.ref b1)])) _
    refine XS.dup X1.here hx rfl (hb hby d3_3) rfl rfl ?_
    show Steps p.tables e below (T1.setTop (mkF m 4 #[.val (.int p0)] [(.ref b1), (.ref b1)])) _
    refine XS.iconst X1.here hx rfl (hb hby d3_4) ?_
    show Steps p.tables e below (T1.setTop (mkF m 5 #[.val (.int p0)] [(.int (0 : Int32)), (.ref b1), (.ref b1)])) _
    refine XS.iloadN X1.here hx rfl (hb hby d3_5) rfl ?_
    show Steps p.tables e below (T1.setTop (mkF m 6 #[.val (.int p0)] [(.int p0), (.int (0 : Int32)), (.ref b1), (.ref b1)])) _
    refine XS.i2b X1.here hx rfl (hb hby d3_6) rfl ?_
    show Steps p.tables e below (T1.setTop (mkF m 7 #[.val (.int p0)] [(.int (p0.toInt8.toInt32)), (.int (0 : Int32)), (.ref b1), (.ref b1)])) _
    refine st3 _ ?_
    show Steps p.tables e below (T3.setTop (mkF m 8 #[.val (.int p0)] [(.ref b1)])) _
    jvm_step X3.here [X3.here.top, hx, (hb hby d3_8), X3.method', Bd.returns, Value.isRef, FieldType.isReference]
    first | (intro acts; rw [hr _ acts rfl rfl rfl]) | rw [hr _ _ rfl rfl rfl]
    exact Steps.refl _
  · show Q3 Z p0  h0 n0 _ T3.heap _
    rw [e3]
    exact ⟨b1, rfl, N3, Kp3⟩
theorem d4_0 : decode jdk_42_method_151_code 0 = .ok (.aload_n 0, 1) := by decide +kernel
theorem d4_1 : decode jdk_42_method_151_code 1 = .ok (.invokespecial 1, 3) := by decide +kernel
theorem d4_4 : decode jdk_42_method_151_code 4 = .ok (.aload_n 0, 1) := by decide +kernel
theorem d4_5 : decode jdk_42_method_151_code 5 = .ok (.aload_n 1, 1) := by decide +kernel
theorem d4_6 : decode jdk_42_method_151_code 6 = .ok (.putfield 9, 3) := by decide +kernel
theorem d4_9 : decode jdk_42_method_151_code 9 = .ok (.aload_n 0, 1) := by decide +kernel
theorem d4_10 : decode jdk_42_method_151_code 10 = .ok (.iload_n 2, 1) := by decide +kernel
theorem d4_11 : decode jdk_42_method_151_code 11 = .ok (.putfield 15, 3) := by decide +kernel
theorem d4_14 : decode jdk_42_method_151_code 14 = .ok (.return_, 1) := by decide +kernel
theorem pn_4 : plainName "java/lang/String" = true := by first | (simp [plainName, overriddenIn]; done) | decide +kernel
theorem ef_4 (m : MethodId) (u0 : Addr) (u1 : Addr) (p2 : Int32)  : entryFrame m #[(.ref u0), (.ref u1), (.int p2)] 3 = mkF m 0 #[.val (.ref u0), .val (.ref u1), .val (.int p2)] [] := by first | (simp [entryFrame, mkF, argsToLocals, Value.category]; done) | rfl
def Q4 (Z : State) (u0 : Addr) (u1 : Addr) (p2 : Int32) (h0 : Heap) (n0 : Nat) (v : Option Value) (h : Heap) (L : List Loc) : Prop := v = none ∧ Fr n0 L ∧ Keep h0 h [u0]
set_option maxRecDepth 65536 in
set_option maxHeartbeats 40000000 in
theorem rm4 (l : Launch) (Z : State) (a0 : Array Value) (hw : ∀ d ∈ tables_1, d.before a0 Z = true) (ws : List Jvm.Cond) (u0 : Addr) (u1 : Addr) (p2 : Int32) (h0 : Heap) (n0 : Nat) (Z0 : n0 ≤ h0.size) (E0 : Exa Z h0 u0 "java/lang/String") (g0 : n0 ≤ u0) (F_value : Fld Z h0 u0 "java/lang/String" "value" "[B" .null) (F_coder : Fld Z h0 u0 "java/lang/String" "coder" "B" (.int (0 : Int32))) :
    MetFree l (⟨"java/lang/String", "<init>", "([BB)V"⟩ : MethodName) (head1 (Jvm.Cond.code (⟨"java/lang/String", "<init>", "([BB)V"⟩ : MethodName) jdk_42_method_151_code 3 none :: ws) ({ frames := 1, cells := 0, slots := 0, locals := 12 } : Room)) (fun a U => a = #[(.ref u0), (.ref u1), (.int p2)] ∧ Z.Warmed39 U.vm ∧ U.heap = h0) (fun _ _ _ _ _ => True) (fun _ U o U' => ∃ v L, o = .returned v ∧ Q4 Z u0 u1 p2 h0 n0 v U'.heap L ∧ FrameEnd U o U' L ({ frames := 1, cells := 0, slots := 0, locals := 12 } : Room).cells ({ frames := 1, cells := 0, slots := 0, locals := 12 } : Room).slots) := by
  refine MetFree.of_bodySF (plainFor_of_name pn_4) hisR ?_
  intro p e s m args below meth c s₁ Bd hml0 hP hK
  obtain ⟨rfl, hZ, hh⟩ := hP
  have hx := Bd.exec
  have hby := Bd.bytes
  have hml : c.maxLocals = 3 := hml0
  have hown : s.vm.findClass "java/lang/String" = some m.cls := findClass_of_methodNamed Bd.named
  have hnm := (name_of_methodNamed Bd.named Bd.method).1
  have X0 : Stand p l e ({ frames := 1, cells := 0, slots := 0, locals := 12 } : Room) s m #[(.ref u0), (.ref u1), (.int p2)] below meth c s₁ [] 0 0 := Stand.of_body Bd
  have e0 : s₁.heap = h0 := by rw [← hh, Bd.state]; rfl
  have N0 := Fr.nil n0
  have pre0 : ∀ t, Steps p.tables e below (s₁.setTop (mkF m 0 #[.val (.ref u0), .val (.ref u1), .val (.int p2)] [])) t → Steps p.tables e below (s₁.setTop (entryFrame m #[(.ref u0), (.ref u1), (.int p2)] 3)) t := fun t k => castTop (ef_4 m u0 u1 p2) k
  show Done p e below _ _
  refine Done.of ?_ pre0
  obtain ⟨T1, X1, e1, st1⟩ := initO X0 hx hZ hown (hw _ (List.mem_of_getElem? (i := 64) rfl)) (hw _ (List.mem_of_getElem? (i := 65) rfl)) (hw _ (List.mem_of_getElem? (i := 66) rfl)) e0 (g := (mkF m 1 #[.val (.ref u0), .val (.ref u1), .val (.int p2)] [(.ref u0)])) rfl (by rw [hml]; rfl) rfl (hb hby d4_1) (by decide) (W := 0) (by show 2 * 0 + _ ≤ _; exact Nat.le_of_eq rfl) (by decide)
  obtain ⟨T2, h2, X2, e2, W2, st2⟩ := putF X1 hx hZ hown (host := "") (Or.inl (hw _ (List.mem_of_getElem? (i := 67) rfl))) Via.refl e1 F_value E0 (Or.inr ⟨(hw _ (List.mem_of_getElem? (i := 68) rfl)), rfl, hnm⟩) (hw _ (List.mem_of_getElem? (i := 55) rfl)) (ty := (.array .byte)) (by decide) rfl rfl (g := (mkF m 6 #[.val (.ref u0), .val (.ref u1), .val (.int p2)] [(.ref u1), (.ref u0)])) rfl rfl (hb hby d4_6)
  have Fw2 := Fld.same W2 F_value
  have N2 := Fr.snoc X2 N0 g0
  have Z2 : n0 ≤ h2.size := Nat.le_trans Z0 (Nat.le_of_eq W2.size.symm)
  have Kp2 := (Keep.refl h0 [u0]).wr W2 (Or.inl (List.mem_of_getElem? (i := 0) rfl))
  obtain ⟨T3, h3, X3, e3, W3, st3⟩ := putFN X2 hx hZ hown (hw _ (List.mem_of_getElem? (i := 69) rfl)) Via.refl e2 (F_coder.other W2 (Or.inr (slot_ne (Or.inr (hw _ (List.mem_of_getElem? (i := 70) rfl))) (Or.inr (hw _ (List.mem_of_getElem? (i := 68) rfl))) (by decide) (t := .byte) (t' := (.array .byte)) (by decide) (by decide)))) (E0.wr W2) (Or.inr ⟨(hw _ (List.mem_of_getElem? (i := 70) rfl)), rfl, hnm⟩) (hw _ (List.mem_of_getElem? (i := 55) rfl)) (ty := .byte) (v' := .int (p2.toInt8.toInt32)) (by decide) rfl (fits_nar_byte _) (g := (mkF m 11 #[.val (.ref u0), .val (.ref u1), .val (.int p2)] [(.int p2), (.ref u0)])) rfl rfl (hb hby d4_11)
  have Fw3 := Fld.same W3 (F_coder.other W2 (Or.inr (slot_ne (Or.inr (hw _ (List.mem_of_getElem? (i := 70) rfl))) (Or.inr (hw _ (List.mem_of_getElem? (i := 68) rfl))) (by decide) (t := .byte) (t' := (.array .byte)) (by decide) (by decide))))
  have N3 := Fr.snoc X3 N2 g0
  have Z3 : n0 ≤ h3.size := Nat.le_trans Z2 (Nat.le_of_eq W3.size.symm)
  have Kp3 := Kp2.wr W3 (Or.inl (List.mem_of_getElem? (i := 0) rfl))
  obtain ⟨fs, hr, hrun, hended, hW, hsame⟩ := X3.leave (v := none) (fun _ => rfl)
  refine ⟨_, _, ?_, hrun, hended, _, _, rfl, ?_, ⟨_, rfl⟩, hW, hsame.mono (by decide) (by decide)⟩
  · show Steps p.tables e below (s₁.setTop (mkF m 0 #[.val (.ref u0), .val (.ref u1), .val (.int p2)] [])) _
    refine XS.aloadN X0.here hx rfl (hb hby d4_0) rfl rfl ?_
    show Steps p.tables e below (s₁.setTop (mkF m 1 #[.val (.ref u0), .val (.ref u1), .val (.int p2)] [(.ref u0)])) _
    refine st1 _ ?_
    show Steps p.tables e below (T1.setTop (mkF m 4 #[.val (.ref u0), .val (.ref u1), .val (.int p2)] [])) _
    refine XS.aloadN X1.here hx rfl (hb hby d4_4) rfl rfl ?_
    show Steps p.tables e below (T1.setTop (mkF m 5 #[.val (.ref u0), .val (.ref u1), .val (.int p2)] [(.ref u0)])) _
    refine XS.aloadN X1.here hx rfl (hb hby d4_5) rfl rfl ?_
    show Steps p.tables e below (T1.setTop (mkF m 6 #[.val (.ref u0), .val (.ref u1), .val (.int p2)] [(.ref u1), (.ref u0)])) _
    refine st2 _ ?_
    show Steps p.tables e below (T2.setTop (mkF m 9 #[.val (.ref u0), .val (.ref u1), .val (.int p2)] [])) _
    refine XS.aloadN X2.here hx rfl (hb hby d4_9) rfl rfl ?_
    show Steps p.tables e below (T2.setTop (mkF m 10 #[.val (.ref u0), .val (.ref u1), .val (.int p2)] [(.ref u0)])) _
    refine XS.iloadN X2.here hx rfl (hb hby d4_10) rfl ?_
    show Steps p.tables e below (T2.setTop (mkF m 11 #[.val (.ref u0), .val (.ref u1), .val (.int p2)] [(.int p2), (.ref u0)])) _
    refine st3 _ ?_
    show Steps p.tables e below (T3.setTop (mkF m 14 #[.val (.ref u0), .val (.ref u1), .val (.int p2)] [])) _
    exact X3.returnOut hx Bd.returns (hb hby d4_14) hr
  · show Q4 Z u0 u1 p2  h0 n0 _ T3.heap _
    rw [e3]
    exact ⟨rfl, N3, Kp3⟩
theorem d1_0 : decode jdk_42_method_139_code 0 = .ok (.getstatic 38, 3) := by decide +kernel
theorem d1_3 : decode jdk_42_method_139_code 3 = .ok (.ifCond .eq 23, 3) := by decide +kernel
theorem d1_6 : decode jdk_42_method_139_code 6 = .ok (.iload_n 0, 1) := by decide +kernel
theorem d1_7 : decode jdk_42_method_139_code 7 = .ok (.invokestatic 1015, 3) := by decide +kernel
theorem d1_10 : decode jdk_42_method_139_code 10 = .ok (.ifCond .eq 16, 3) := by decide +kernel
theorem d1_13 : decode jdk_42_method_139_code 13 = .ok (.new 10, 3) := by decide +kernel
theorem d1_16 : decode jdk_42_method_139_code 16 = .ok (.dup, 1) := by decide +kernel
theorem d1_17 : decode jdk_42_method_139_code 17 = .ok (.iload_n 0, 1) := by decide +kernel
theorem d1_18 : decode jdk_42_method_139_code 18 = .ok (.invokestatic 1018, 3) := by decide +kernel
theorem d1_21 : decode jdk_42_method_139_code 21 = .ok (.iconst 0, 1) := by decide +kernel
theorem d1_22 : decode jdk_42_method_139_code 22 = .ok (.invokespecial 209, 3) := by decide +kernel
theorem d1_25 : decode jdk_42_method_139_code 25 = .ok (.areturn, 1) := by decide +kernel
theorem pn_1 : plainName "java/lang/String" = true := by first | (simp [plainName, overriddenIn]; done) | decide +kernel
theorem pd_0 : parseMethodDescriptor "(C)Z" = some ⟨[.char], some .boolean⟩ := by decide +kernel
theorem pd_1 : parseMethodDescriptor "(C)[B" = some ⟨[.char], some (.array .byte)⟩ := by decide +kernel
theorem pd_2 : parseMethodDescriptor "([BB)V" = some ⟨[(.array .byte), .byte], none⟩ := by decide +kernel
theorem ef_1 (m : MethodId) (p0 : Int32)  : entryFrame m #[(.int p0)] 1 = mkF m 0 #[.val (.int p0)] [] := by first | (simp [entryFrame, mkF, argsToLocals, Value.category]; done) | rfl
def Q1 (Z : State) (p0 : Int32) (cs : Int32) (h0 : Heap) (n0 : Nat) (v : Option Value) (h : Heap) (L : List Loc) : Prop := ∃ b : Addr, v = some (.ref b) ∧ Fr n0 L ∧ Keep h0 h []
set_option maxRecDepth 65536 in
set_option maxHeartbeats 40000000 in
theorem rm1 (l : Launch) (Z : State) (a0 : Array Value) (hw : ∀ d ∈ tables_1, d.before a0 Z = true) (ws : List Jvm.Cond) (p0 : Int32) (cs : Int32) (h0 : Heap) (n0 : Nat) (Z0 : n0 ≤ h0.size) (SCS : Sta Z h0 "java/lang/String" "COMPACT_STRINGS" "Z" (.int cs)) (hcs : ¬ cs = (0 : Int32)) (hch : ¬ (255 : Int32) < p0) :
    MetFree l (⟨"java/lang/String", "valueOf", "(C)Ljava/lang/String;"⟩ : MethodName) (head1 (Jvm.Cond.code (⟨"java/lang/String", "valueOf", "(C)Ljava/lang/String;"⟩ : MethodName) jdk_42_method_139_code 1 (some (.object "java/lang/String")) :: ws) ({ frames := 2, cells := 2, slots := 5, locals := 27 } : Room)) (fun a U => a = #[(.int p0)] ∧ Z.Warmed39 U.vm ∧ U.heap = h0) (fun _ _ _ _ _ => True) (fun _ U o U' => ∃ v L, o = .returned v ∧ Q1 Z p0 cs h0 n0 v U'.heap L ∧ FrameEnd U o U' L ({ frames := 2, cells := 2, slots := 5, locals := 27 } : Room).cells ({ frames := 2, cells := 2, slots := 5, locals := 27 } : Room).slots) := by
  refine MetFree.of_bodySF (plainFor_of_name pn_1) hisR ?_
  intro p e s m args below meth c s₁ Bd hml0 hP hK
  obtain ⟨rfl, hZ, hh⟩ := hP
  have hx := Bd.exec
  have hby := Bd.bytes
  have hml : c.maxLocals = 1 := hml0
  have hown : s.vm.findClass "java/lang/String" = some m.cls := findClass_of_methodNamed Bd.named
  have hnm := (name_of_methodNamed Bd.named Bd.method).1
  have X0 : Stand p l e ({ frames := 2, cells := 2, slots := 5, locals := 27 } : Room) s m #[(.int p0)] below meth c s₁ [] 0 0 := Stand.of_body Bd
  have e0 : s₁.heap = h0 := by rw [← hh, Bd.state]; rfl
  have N0 := Fr.nil n0
  have pre0 : ∀ t, Steps p.tables e below (s₁.setTop (mkF m 0 #[.val (.int p0)] [])) t → Steps p.tables e below (s₁.setTop (entryFrame m #[(.int p0)] 1)) t := fun t k => castTop (ef_1 m p0) k
  show Done p e below _ _
  refine Done.of ?_ pre0
  obtain ⟨T1, X1, e1, st1⟩ := getS2 X0 hx hZ hown (host := "") (Or.inl (hw _ (List.mem_of_getElem? (i := 49) rfl))) Via.refl e0 SCS (g := (mkF m 0 #[.val (.int p0)] [])) rfl (hb hby d1_0)
  have hd3_2 : ¬ (cs = (0 : Int32)) := by exact hcs
  obtain ⟨_, _, ⟨T3, L3, k3, n3⟩, -, X3, ⟨Lc3, hQ3, l3, y3, z3⟩, st3⟩ := Jvm.LawKit.callS X1 hx (y := (⟨"java/lang/StringLatin1", "canEncode", "(C)Z"⟩ : MethodName)) hown (mvT hZ (hw _ (List.mem_of_getElem? (i := 50) rfl))) (mvT hZ (hw _ (List.mem_of_getElem? (i := 51) rfl))) (mvT hZ (hw _ (List.mem_of_getElem? (i := 52) rfl))) (mvT hZ (hw _ (List.mem_of_getElem? (i := 53) rfl))) (by decide) (backOf (W := 0) (rm2 l Z a0 hw [] p0 h0 n0 Z0 ) hZ (hw _ (List.mem_of_getElem? (i := 53) rfl)) (hw _ (List.mem_of_getElem? (i := 52) rfl)) (by decide) (by decide)) (g := (mkF m 7 #[.val (.int p0)] [(.int p0)])) rfl (by rw [hml]; rfl) (argsL := [(.int p0)]) (rest := []) (lenOf pd_0 rfl) rfl (by show 2 * 0 + _ ≤ _; exact Nat.le_of_eq rfl) (hb hby d1_7) (fun _ _ => ⟨rfl, e1, (by decide : 0 + 0 ≤ _), (by decide : 0 + 0 ≤ _)⟩)
  dsimp only [Pt.U, Pt.locs, Pt.cells, Pt.slots] at X3 l3 y3 z3 st3 hQ3
  rw [l3, y3, z3] at X3
  obtain ⟨rfl, N3q, e3⟩ := hQ3
  have N3 := Fr.app N0 N3q
  have hd10_4 : ¬ ((if (255 : Int32) < p0 then (0 : Int32) else (1 : Int32)) = (0 : Int32)) := by (rw [if_neg hch]; decide)
  obtain ⟨T5, h5, X5, e5, E5, A5, D5, -, st5⟩ := newO X3 hx hZ hown (hw _ (List.mem_of_getElem? (i := 54) rfl)) (hw _ (List.mem_of_getElem? (i := 55) rfl)) (hw _ (List.mem_of_getElem? (i := 47) rfl)) e3 (g := (mkF m 13 #[.val (.int p0)] [])) rfl (hb hby d1_13) (by decide) (by decide)
  obtain ⟨b5, g5⟩ : ∃ z, z = h0.size := ⟨_, rfl⟩
  rw [← g5] at A5 D5 st5
  have gnb5 : n0 ≤ b5 := Nat.le_trans Z0 (Nat.le_of_eq g5.symm)
  have Z5 : n0 ≤ h5.size := Nat.le_trans Z0 E5.1
  have szb5 : h0.size ≤ b5 := Nat.le_trans (Keep.refl h0 []).1 (Nat.le_of_eq g5.symm)
  have Kp5 := (Keep.refl h0 []).ext E5
  have F5_value : Fld Z h5 b5 "java/lang/String" "value" "[B" .null := D5 (Or.inr (hw _ (List.mem_of_getElem? (i := 68) rfl))) (ty := (.array .byte)) (by decide)
  have F5_coder : Fld Z h5 b5 "java/lang/String" "coder" "B" (.int (0 : Int32)) := D5 (Or.inr (hw _ (List.mem_of_getElem? (i := 70) rfl))) (ty := .byte) (by decide)
  obtain ⟨_, _, ⟨T6, L6, k6, n6⟩, -, X6, ⟨Lc6, hQ6, l6, y6, z6⟩, st6⟩ := Jvm.LawKit.callS X5 hx (y := (⟨"java/lang/StringLatin1", "toBytes", "(C)[B"⟩ : MethodName)) hown (mvT hZ (hw _ (List.mem_of_getElem? (i := 56) rfl))) (mvT hZ (hw _ (List.mem_of_getElem? (i := 57) rfl))) (mvT hZ (hw _ (List.mem_of_getElem? (i := 52) rfl))) (mvT hZ (hw _ (List.mem_of_getElem? (i := 58) rfl))) (by decide) (backOf (W := 2) (rm3 l Z a0 hw [] p0 h5 n0 Z5 ) hZ (hw _ (List.mem_of_getElem? (i := 58) rfl)) (hw _ (List.mem_of_getElem? (i := 52) rfl)) (by decide) (by decide)) (g := (mkF m 18 #[.val (.int p0)] [(.int p0), (.ref b5), (.ref b5)])) rfl (by rw [hml]; rfl) (argsL := [(.int p0)]) (rest := [(.ref b5), (.ref b5)]) (lenOf pd_1 rfl) rfl (by show 2 * 0 + _ ≤ _; exact Nat.le_of_eq rfl) (hb hby d1_18) (fun _ _ => ⟨rfl, e5, (by decide : 1 + 1 ≤ _), (by decide : 4 + 1 ≤ _)⟩)
  dsimp only [Pt.U, Pt.locs, Pt.cells, Pt.slots] at X6 l6 y6 z6 st6 hQ6
  rw [l6, y6, z6] at X6
  obtain ⟨b6, rfl, N6q, K6q⟩ := hQ6
  have N6 := Fr.app N3 N6q
  have Z6 : n0 ≤ T6.heap.size := Nat.le_trans Z5 K6q.1
  have Kp6 := Kp5.trans K6q (fun x hx => nomatch hx)
  obtain ⟨_, _, ⟨T7, L7, k7, n7⟩, -, X7, ⟨Lc7, hQ7, l7, y7, z7⟩, st7⟩ := X6.specialBack hx (y := (⟨"java/lang/String", "<init>", "([BB)V"⟩ : MethodName)) rfl hown (mvT hZ (hw _ (List.mem_of_getElem? (i := 60) rfl))) (mvT hZ (hw _ (List.mem_of_getElem? (i := 61) rfl))) (mvT hZ (hw _ (List.mem_of_getElem? (i := 63) rfl))) (by decide) (backOf (W := 1) (rm4 l Z a0 hw [] b5 b6 (0 : Int32) T6.heap n0 Z6 (A5.keep K6q) gnb5 (F5_value.keep K6q (by simp)) (F5_coder.keep K6q (by simp))) hZ (hw _ (List.mem_of_getElem? (i := 63) rfl)) (hw _ (List.mem_of_getElem? (i := 47) rfl)) (by decide) (by decide)) (g := (mkF m 22 #[.val (.int p0)] [(.int (0 : Int32)), (.ref b6), (.ref b5), (.ref b5)])) rfl (by rw [hml]; rfl) (Steps.refl _) (a := b5) (argsL := [(.ref b6), (.int (0 : Int32))]) (rest := [(.ref b5)]) (lenOf pd_2 rfl) rfl (by show 2 * 0 + _ ≤ _; exact Nat.le_of_eq rfl) (hb hby d1_22) (fun _ _ => ⟨rfl, rfl, (by decide : 2 + 0 ≤ _), (by decide : 5 + 0 ≤ _)⟩)
  dsimp only [Pt.U, Pt.locs, Pt.cells, Pt.slots] at X7 l7 y7 z7 st7 hQ7
  rw [l7, y7, z7] at X7
  obtain ⟨rfl, N7q, K7q⟩ := hQ7
  have N7 := Fr.app N6 N7q
  have Z7 : n0 ≤ T7.heap.size := Nat.le_trans Z6 K7q.1
  have Kp7 := Kp6.trans K7q (fun x hx => Or.inr (by cases List.mem_singleton.mp hx; exact szb5))
  obtain ⟨fs, hr, hrun, hended, hW, hsame⟩ := X7.leave (v := some (.ref b5)) (fun h => by rw [Bd.returns] at h; cases h)
  refine ⟨_, _, ?_, hrun, hended, _, _, rfl, ?_, ⟨_, rfl⟩, hW, hsame.mono (by decide) (by decide)⟩
  · show Steps p.tables e below (s₁.setTop (mkF m 0 #[.val (.int p0)] [])) _
    refine st1 _ ?_
    show Steps p.tables e below (T1.setTop (mkF m 3 #[.val (.int p0)] [(.int cs)])) _
    refine XS.ifNo X1.here hx rfl (hb hby d1_3) rfl ((if0 _ _).trans (feq hd3_2).1) ?_
    show Steps p.tables e below (T1.setTop (mkF m 6 #[.val (.int p0)] [])) _
    refine XS.iloadN X1.here hx rfl (hb hby d1_6) rfl ?_
    show Steps p.tables e below (T1.setTop (mkF m 7 #[.val (.int p0)] [(.int p0)])) _
    refine st3 _ ?_
    show Steps p.tables e below (T3.setTop (mkF m 10 #[.val (.int p0)] [(.int (if (255 : Int32) < p0 then (0 : Int32) else (1 : Int32)))])) _
    refine XS.ifNo X3.here hx rfl (hb hby d1_10) rfl ((if0 _ _).trans (feq hd10_4).1) ?_
    show Steps p.tables e below (T3.setTop (mkF m 13 #[.val (.int p0)] [])) _
    refine st5 _ ?_
    show Steps p.tables e below (T5.setTop (mkF m 16 #[.val (.int p0)] [(.ref b5)])) _
    refine XS.dup X5.here hx rfl (hb hby d1_16) rfl rfl ?_
    show Steps p.tables e below (T5.setTop (mkF m 17 #[.val (.int p0)] [(.ref b5), (.ref b5)])) _
    refine XS.iloadN X5.here hx rfl (hb hby d1_17) rfl ?_
    show Steps p.tables e below (T5.setTop (mkF m 18 #[.val (.int p0)] [(.int p0), (.ref b5), (.ref b5)])) _
    refine st6 _ ?_
    show Steps p.tables e below (T6.setTop (mkF m 21 #[.val (.int p0)] [(.ref b6), (.ref b5), (.ref b5)])) _
    refine XS.iconst X6.here hx rfl (hb hby d1_21) ?_
    show Steps p.tables e below (T6.setTop (mkF m 22 #[.val (.int p0)] [(.int (0 : Int32)), (.ref b6), (.ref b5), (.ref b5)])) _
    refine st7.trans ?_
    show Steps p.tables e below (T7.setTop (mkF m 25 #[.val (.int p0)] [(.ref b5)])) _
    jvm_step X7.here [X7.here.top, hx, (hb hby d1_25), X7.method', Bd.returns, Value.isRef, FieldType.isReference]
    first | (intro acts; rw [hr _ acts rfl rfl rfl]) | rw [hr _ _ rfl rfl rfl]
    exact Steps.refl _
  · show Q1 Z p0 cs h0 n0 _ T7.heap _
    exact ⟨b5, rfl, N7, Kp7⟩
theorem d12_0 : decode jdk_52_method_21_code 0 = .ok (.iconst 0, 1) := by decide +kernel
theorem d12_1 : decode jdk_52_method_21_code 1 = .ok (.istore 5, 2) := by decide +kernel
theorem d12_3 : decode jdk_52_method_21_code 3 = .ok (.iload 5, 2) := by decide +kernel
theorem d12_5 : decode jdk_52_method_21_code 5 = .ok (.iload 4, 2) := by decide +kernel
theorem d12_7 : decode jdk_52_method_21_code 7 = .ok (.if_icmp .ge 37, 3) := by decide +kernel
theorem d12_10 : decode jdk_52_method_21_code 10 = .ok (.aload_n 0, 1) := by decide +kernel
theorem d12_11 : decode jdk_52_method_21_code 11 = .ok (.iload_n 1, 1) := by decide +kernel
theorem d12_12 : decode jdk_52_method_21_code 12 = .ok (.caload, 1) := by decide +kernel
theorem d12_13 : decode jdk_52_method_21_code 13 = .ok (.istore 6, 2) := by decide +kernel
theorem d12_15 : decode jdk_52_method_21_code 15 = .ok (.iload 6, 2) := by decide +kernel
theorem d12_17 : decode jdk_52_method_21_code 17 = .ok (.sipush 255, 3) := by decide +kernel
theorem d12_20 : decode jdk_52_method_21_code 20 = .ok (.if_icmp .le 6, 3) := by decide +kernel
theorem d12_26 : decode jdk_52_method_21_code 26 = .ok (.aload_n 2, 1) := by decide +kernel
theorem d12_27 : decode jdk_52_method_21_code 27 = .ok (.iload_n 3, 1) := by decide +kernel
theorem d12_28 : decode jdk_52_method_21_code 28 = .ok (.iload 6, 2) := by decide +kernel
theorem d12_30 : decode jdk_52_method_21_code 30 = .ok (.i2b, 1) := by decide +kernel
theorem d12_31 : decode jdk_52_method_21_code 31 = .ok (.bastore, 1) := by decide +kernel
theorem d12_32 : decode jdk_52_method_21_code 32 = .ok (.iinc 1 1, 3) := by decide +kernel
theorem d12_35 : decode jdk_52_method_21_code 35 = .ok (.iinc 3 1, 3) := by decide +kernel
theorem d12_38 : decode jdk_52_method_21_code 38 = .ok (.iinc 5 1, 3) := by decide +kernel
theorem d12_41 : decode jdk_52_method_21_code 41 = .ok (.goto (-38), 3) := by decide +kernel
theorem d12_44 : decode jdk_52_method_21_code 44 = .ok (.iload 4, 2) := by decide +kernel
theorem d12_46 : decode jdk_52_method_21_code 46 = .ok (.ireturn, 1) := by decide +kernel
theorem pn_12 : plainName "java/lang/StringUTF16" = true := by first | (simp [plainName, overriddenIn]; done) | decide +kernel
theorem ef_12 (m : MethodId) (u0 : Addr) (u2 : Addr)  : entryFrame m #[(.ref u0), (.int (0 : Int32)), (.ref u2), (.int (0 : Int32)), (.int (2 : Int32))] 7 = mkF m 0 #[.val (.ref u0), .val (.int (0 : Int32)), .val (.ref u2), .val (.int (0 : Int32)), .val (.int (2 : Int32)), .unset, .unset] [] := by first | (simp [entryFrame, mkF, argsToLocals, Value.category]; done) | rfl
def Q12 (Z : State) (u0 : Addr) (u2 : Addr) (kC : ClassId) (kB : ClassId) (c0 : Int32) (c1 : Int32) (dC : Value) (dB : Value) (h0 : Heap) (n0 : Nat) (v : Option Value) (h : Heap) (L : List Loc) : Prop := v = some (.int (2 : Int32)) ∧ Fr n0 L ∧ Keep h0 h [u2] ∧ ∃ (vs : List Value) (d : Value), Arv Z h u2 kB .byte (2 : Int32) vs d
set_option maxRecDepth 65536 in
set_option maxHeartbeats 40000000 in
theorem rm12 (l : Launch) (Z : State) (a0 : Array Value) (hw : ∀ d ∈ tables_1, d.before a0 Z = true) (ws : List Jvm.Cond) (u0 : Addr) (u2 : Addr) (kC : ClassId) (kB : ClassId) (c0 : Int32) (c1 : Int32) (dC : Value) (dB : Value) (h0 : Heap) (n0 : Nat) (Z0 : n0 ≤ h0.size) (V0 : Arv Z h0 u0 kC .char (2 : Int32) [(.int c0), (.int c1)] dC) (V2 : Arv Z h0 u2 kB .byte (2 : Int32) [(.int (0 : Int32)), (.int (0 : Int32))] dB) (g2 : n0 ≤ u2) (hne : u0 ≠ u2) (hc0 : ¬ (255 : Int32) < c0) (hc1 : ¬ (255 : Int32) < c1) :
    MetFree l (⟨"java/lang/StringUTF16", "compress", "([CI[BII)I"⟩ : MethodName) (head1 (Jvm.Cond.code (⟨"java/lang/StringUTF16", "compress", "([CI[BII)I"⟩ : MethodName) jdk_52_method_21_code 7 (some .int) :: ws) ({ frames := 0, cells := 0, slots := 0, locals := 0 } : Room)) (fun a U => a = #[(.ref u0), (.int (0 : Int32)), (.ref u2), (.int (0 : Int32)), (.int (2 : Int32))] ∧ Z.Warmed39 U.vm ∧ U.heap = h0) (fun _ _ _ _ _ => True) (fun _ U o U' => ∃ v L, o = .returned v ∧ Q12 Z u0 u2 kC kB c0 c1 dC dB h0 n0 v U'.heap L ∧ FrameEnd U o U' L ({ frames := 0, cells := 0, slots := 0, locals := 0 } : Room).cells ({ frames := 0, cells := 0, slots := 0, locals := 0 } : Room).slots) := by
  refine MetFree.of_bodySF (plainFor_of_name pn_12) hisR ?_
  intro p e s m args below meth c s₁ Bd hml0 hP hK
  obtain ⟨rfl, hZ, hh⟩ := hP
  have hx := Bd.exec
  have hby := Bd.bytes
  have hml : c.maxLocals = 7 := hml0
  have hown : s.vm.findClass "java/lang/StringUTF16" = some m.cls := findClass_of_methodNamed Bd.named
  have hnm := (name_of_methodNamed Bd.named Bd.method).1
  have X0 : Stand p l e ({ frames := 0, cells := 0, slots := 0, locals := 0 } : Room) s m #[(.ref u0), (.int (0 : Int32)), (.ref u2), (.int (0 : Int32)), (.int (2 : Int32))] below meth c s₁ [] 0 0 := Stand.of_body Bd
  have e0 : s₁.heap = h0 := by rw [← hh, Bd.state]; rfl
  have N0 := Fr.nil n0
  have pre0 : ∀ t, Steps p.tables e below (s₁.setTop (mkF m 0 #[.val (.ref u0), .val (.int (0 : Int32)), .val (.ref u2), .val (.int (0 : Int32)), .val (.int (2 : Int32)), .unset, .unset] [])) t → Steps p.tables e below (s₁.setTop (entryFrame m #[(.ref u0), (.int (0 : Int32)), (.ref u2), (.int (0 : Int32)), (.int (2 : Int32))] 7)) t := fun t k => castTop (ef_12 m u0 u2) k
  show Done p e below _ _
  refine Done.of ?_ pre0
  obtain ⟨cl1, Ar1, qq1, S1, M1, H1, G1⟩ := id V0
  have hin1 : ¬ ((0 : Int32) < 0 ∨ cl1.slots.size ≤ ((0 : Int32)).toNatClampNeg) := inb_of S1 ⟨by decide, by decide⟩
  have hat1 : cl1.slots[((0 : Int32)).toNatClampNeg]? = some (.int c0) := H1 0 (by rw [S1]; decide)
  have hd20_2 : ¬ ((255 : Int32) < c0) := by exact hc0
  obtain ⟨cl3, Ar3, qq3, S3, M3, H3, G3⟩ := id V2
  have hin3 : ¬ ((0 : Int32) < 0 ∨ cl3.slots.size ≤ ((0 : Int32)).toNatClampNeg) := inb_of S3 ⟨by decide, by decide⟩
  obtain ⟨T4, h4, X4, e4, W4, st4⟩ := stB X0 hx hZ e0 Ar3 (j := (0 : Int32)) hin3 (g := (mkF m 31 #[.val (.ref u0), .val (.int (0 : Int32)), .val (.ref u2), .val (.int (0 : Int32)), .val (.int (2 : Int32)), .val (.int (0 : Int32)), .val (.int c0)] [(.int (c0.toInt8.toInt32)), (.int (0 : Int32)), (.ref u2)])) rfl rfl (hb hby d12_31)
  have V4 : Arv Z h4 u2 kB .byte (2 : Int32) [(.int ((c0.toInt8.toInt32).toInt8.toInt32)), (.int (0 : Int32))] _ := Arv.set Ar3 qq3 S3 M3 H3 G3 (fits_nar_byte _) W4 0 rfl (Nat.le_of_ble_eq_true rfl)
  have N4 := Fr.snoc X4 N0 g2
  have Z4 : n0 ≤ h4.size := Nat.le_trans Z0 (Nat.le_of_eq W4.size.symm)
  have Kp4 := (Keep.refl h0 [u2]).wr W4 (Or.inl (List.mem_of_getElem? (i := 0) rfl))
  obtain ⟨cl5, Ar5, qq5, S5, M5, H5, G5⟩ := id (V0.other W4 hne)
  have hin5 : ¬ ((1 : Int32) < 0 ∨ cl5.slots.size ≤ ((1 : Int32)).toNatClampNeg) := inb_of S5 ⟨by decide, by decide⟩
  have hat5 : cl5.slots[((1 : Int32)).toNatClampNeg]? = some (.int c1) := H5 1 (by rw [S5]; decide)
  have hd20_6 : ¬ ((255 : Int32) < c1) := by exact hc1
  obtain ⟨cl7, Ar7, qq7, S7, M7, H7, G7⟩ := id V4
  have hin7 : ¬ ((1 : Int32) < 0 ∨ cl7.slots.size ≤ ((1 : Int32)).toNatClampNeg) := inb_of S7 ⟨by decide, by decide⟩
  obtain ⟨T8, h8, X8, e8, W8, st8⟩ := stB X4 hx hZ e4 Ar7 (j := (1 : Int32)) hin7 (g := (mkF m 31 #[.val (.ref u0), .val (.int (1 : Int32)), .val (.ref u2), .val (.int (1 : Int32)), .val (.int (2 : Int32)), .val (.int (1 : Int32)), .val (.int c1)] [(.int (c1.toInt8.toInt32)), (.int (1 : Int32)), (.ref u2)])) rfl rfl (hb hby d12_31)
  have V8 : Arv Z h8 u2 kB .byte (2 : Int32) [(.int ((c0.toInt8.toInt32).toInt8.toInt32)), (.int ((c1.toInt8.toInt32).toInt8.toInt32))] _ := Arv.set Ar7 qq7 S7 M7 H7 G7 (fits_nar_byte _) W8 1 rfl (Nat.le_of_ble_eq_true rfl)
  have N8 := Fr.snoc X8 N4 g2
  have Z8 : n0 ≤ h8.size := Nat.le_trans Z4 (Nat.le_of_eq W8.size.symm)
  have Kp8 := Kp4.wr W8 (Or.inl (List.mem_of_getElem? (i := 0) rfl))
  obtain ⟨fs, hr, hrun, hended, hW, hsame⟩ := X8.leave (v := some (.int (2 : Int32))) (fun h => by rw [Bd.returns] at h; cases h)
  refine ⟨_, _, ?_, hrun, hended, _, _, rfl, ?_, ⟨_, rfl⟩, hW, hsame.mono (by decide) (by decide)⟩
  · show Steps p.tables e below (s₁.setTop (mkF m 0 #[.val (.ref u0), .val (.int (0 : Int32)), .val (.ref u2), .val (.int (0 : Int32)), .val (.int (2 : Int32)), .unset, .unset] [])) _
    refine XS.iconst X0.here hx rfl (hb hby d12_0) ?_
    show Steps p.tables e below (s₁.setTop (mkF m 1 #[.val (.ref u0), .val (.int (0 : Int32)), .val (.ref u2), .val (.int (0 : Int32)), .val (.int (2 : Int32)), .unset, .unset] [(.int (0 : Int32))])) _
    refine XS.istore X0.here hx rfl (hb hby d12_1) rfl (l' := #[.val (.ref u0), .val (.int (0 : Int32)), .val (.ref u2), .val (.int (0 : Int32)), .val (.int (2 : Int32)), .val (.int (0 : Int32)), .unset]) rfl ?_
    show Steps p.tables e below (s₁.setTop (mkF m 3 #[.val (.ref u0), .val (.int (0 : Int32)), .val (.ref u2), .val (.int (0 : Int32)), .val (.int (2 : Int32)), .val (.int (0 : Int32)), .unset] [])) _
    refine XS.iload X0.here hx rfl (hb hby d12_3) rfl ?_
    show Steps p.tables e below (s₁.setTop (mkF m 5 #[.val (.ref u0), .val (.int (0 : Int32)), .val (.ref u2), .val (.int (0 : Int32)), .val (.int (2 : Int32)), .val (.int (0 : Int32)), .unset] [(.int (0 : Int32))])) _
    refine XS.iload X0.here hx rfl (hb hby d12_5) rfl ?_
    show Steps p.tables e below (s₁.setTop (mkF m 7 #[.val (.ref u0), .val (.int (0 : Int32)), .val (.ref u2), .val (.int (0 : Int32)), .val (.int (2 : Int32)), .val (.int (0 : Int32)), .unset] [(.int (2 : Int32)), (.int (0 : Int32))])) _
    refine XS.icmpNo X0.here hx rfl (hb hby d12_7) rfl (tlt (by decide : (0 : Int32) < (2 : Int32))).2.1 ?_
    show Steps p.tables e below (s₁.setTop (mkF m 10 #[.val (.ref u0), .val (.int (0 : Int32)), .val (.ref u2), .val (.int (0 : Int32)), .val (.int (2 : Int32)), .val (.int (0 : Int32)), .unset] [])) _
    refine XS.aloadN X0.here hx rfl (hb hby d12_10) rfl rfl ?_
    show Steps p.tables e below (s₁.setTop (mkF m 11 #[.val (.ref u0), .val (.int (0 : Int32)), .val (.ref u2), .val (.int (0 : Int32)), .val (.int (2 : Int32)), .val (.int (0 : Int32)), .unset] [(.ref u0)])) _
    refine XS.iloadN X0.here hx rfl (hb hby d12_11) rfl ?_
    show Steps p.tables e below (s₁.setTop (mkF m 12 #[.val (.ref u0), .val (.int (0 : Int32)), .val (.ref u2), .val (.int (0 : Int32)), .val (.int (2 : Int32)), .val (.int (0 : Int32)), .unset] [(.int (0 : Int32)), (.ref u0)])) _
    refine X0.caload hx (j := (0 : Int32)) (v := (.int c0)) (by rw [e0]; exact Ar1.1) (State.isArrayOf_alike hZ.alike Ar1.2.1) Ar1.2.2 hin1 hat1 (g := (mkF m 12 #[.val (.ref u0), .val (.int (0 : Int32)), .val (.ref u2), .val (.int (0 : Int32)), .val (.int (2 : Int32)), .val (.int (0 : Int32)), .unset] [(.int (0 : Int32)), (.ref u0)])) rfl rfl (hb hby d12_12) _ ?_
    show Steps p.tables e below (s₁.setTop (mkF m 13 #[.val (.ref u0), .val (.int (0 : Int32)), .val (.ref u2), .val (.int (0 : Int32)), .val (.int (2 : Int32)), .val (.int (0 : Int32)), .unset] [(.int c0)])) _
    refine XS.istore X0.here hx rfl (hb hby d12_13) rfl (l' := #[.val (.ref u0), .val (.int (0 : Int32)), .val (.ref u2), .val (.int (0 : Int32)), .val (.int (2 : Int32)), .val (.int (0 : Int32)), .val (.int c0)]) rfl ?_
    show Steps p.tables e below (s₁.setTop (mkF m 15 #[.val (.ref u0), .val (.int (0 : Int32)), .val (.ref u2), .val (.int (0 : Int32)), .val (.int (2 : Int32)), .val (.int (0 : Int32)), .val (.int c0)] [])) _
    refine XS.iload X0.here hx rfl (hb hby d12_15) rfl ?_
    show Steps p.tables e below (s₁.setTop (mkF m 17 #[.val (.ref u0), .val (.int (0 : Int32)), .val (.ref u2), .val (.int (0 : Int32)), .val (.int (2 : Int32)), .val (.int (0 : Int32)), .val (.int c0)] [(.int c0)])) _
    refine XS.sipush X0.here hx rfl (hb hby d12_17) ?_
    show Steps p.tables e below (s₁.setTop (mkF m 20 #[.val (.ref u0), .val (.int (0 : Int32)), .val (.ref u2), .val (.int (0 : Int32)), .val (.int (2 : Int32)), .val (.int (0 : Int32)), .val (.int c0)] [(.int (255 : Int32)), (.int c0)])) _
    refine XS.icmpYes X0.here hx rfl (pc0 := 20) (pc' := 26) rfl (hb hby d12_20) rfl (flt hd20_2).2.2.2 (by decide) (by decide) ?_
    show Steps p.tables e below (s₁.setTop (mkF m 26 #[.val (.ref u0), .val (.int (0 : Int32)), .val (.ref u2), .val (.int (0 : Int32)), .val (.int (2 : Int32)), .val (.int (0 : Int32)), .val (.int c0)] [])) _
    refine XS.aloadN X0.here hx rfl (hb hby d12_26) rfl rfl ?_
    show Steps p.tables e below (s₁.setTop (mkF m 27 #[.val (.ref u0), .val (.int (0 : Int32)), .val (.ref u2), .val (.int (0 : Int32)), .val (.int (2 : Int32)), .val (.int (0 : Int32)), .val (.int c0)] [(.ref u2)])) _
    refine XS.iloadN X0.here hx rfl (hb hby d12_27) rfl ?_
    show Steps p.tables e below (s₁.setTop (mkF m 28 #[.val (.ref u0), .val (.int (0 : Int32)), .val (.ref u2), .val (.int (0 : Int32)), .val (.int (2 : Int32)), .val (.int (0 : Int32)), .val (.int c0)] [(.int (0 : Int32)), (.ref u2)])) _
    refine XS.iload X0.here hx rfl (hb hby d12_28) rfl ?_
    show Steps p.tables e below (s₁.setTop (mkF m 30 #[.val (.ref u0), .val (.int (0 : Int32)), .val (.ref u2), .val (.int (0 : Int32)), .val (.int (2 : Int32)), .val (.int (0 : Int32)), .val (.int c0)] [(.int c0), (.int (0 : Int32)), (.ref u2)])) _
    refine XS.i2b X0.here hx rfl (hb hby d12_30) rfl ?_
    show Steps p.tables e below (s₁.setTop (mkF m 31 #[.val (.ref u0), .val (.int (0 : Int32)), .val (.ref u2), .val (.int (0 : Int32)), .val (.int (2 : Int32)), .val (.int (0 : Int32)), .val (.int c0)] [(.int (c0.toInt8.toInt32)), (.int (0 : Int32)), (.ref u2)])) _
    refine st4 _ ?_
    show Steps p.tables e below (T4.setTop (mkF m 32 #[.val (.ref u0), .val (.int (0 : Int32)), .val (.ref u2), .val (.int (0 : Int32)), .val (.int (2 : Int32)), .val (.int (0 : Int32)), .val (.int c0)] [])) _
    refine XS.iinc X4.here hx rfl (hb hby d12_32) rfl (l' := #[.val (.ref u0), .val (.int ((0 : Int32) + (1 : Int32))), .val (.ref u2), .val (.int (0 : Int32)), .val (.int (2 : Int32)), .val (.int (0 : Int32)), .val (.int c0)]) rfl ?_
    rw [show ((0 : Int32) + (1 : Int32)) = (1 : Int32) from by decide]
    show Steps p.tables e below (T4.setTop (mkF m 35 #[.val (.ref u0), .val (.int (1 : Int32)), .val (.ref u2), .val (.int (0 : Int32)), .val (.int (2 : Int32)), .val (.int (0 : Int32)), .val (.int c0)] [])) _
    refine XS.iinc X4.here hx rfl (hb hby d12_35) rfl (l' := #[.val (.ref u0), .val (.int (1 : Int32)), .val (.ref u2), .val (.int ((0 : Int32) + (1 : Int32))), .val (.int (2 : Int32)), .val (.int (0 : Int32)), .val (.int c0)]) rfl ?_
    rw [show ((0 : Int32) + (1 : Int32)) = (1 : Int32) from by decide]
    show Steps p.tables e below (T4.setTop (mkF m 38 #[.val (.ref u0), .val (.int (1 : Int32)), .val (.ref u2), .val (.int (1 : Int32)), .val (.int (2 : Int32)), .val (.int (0 : Int32)), .val (.int c0)] [])) _
    refine XS.iinc X4.here hx rfl (hb hby d12_38) rfl (l' := #[.val (.ref u0), .val (.int (1 : Int32)), .val (.ref u2), .val (.int (1 : Int32)), .val (.int (2 : Int32)), .val (.int ((0 : Int32) + (1 : Int32))), .val (.int c0)]) rfl ?_
    rw [show ((0 : Int32) + (1 : Int32)) = (1 : Int32) from by decide]
    show Steps p.tables e below (T4.setTop (mkF m 41 #[.val (.ref u0), .val (.int (1 : Int32)), .val (.ref u2), .val (.int (1 : Int32)), .val (.int (2 : Int32)), .val (.int (1 : Int32)), .val (.int c0)] [])) _
    refine XS.goto X4.here hx rfl (pc0 := 41) (pc' := 3) rfl (hb hby d12_41) (by decide) (by decide) ?_
    show Steps p.tables e below (T4.setTop (mkF m 3 #[.val (.ref u0), .val (.int (1 : Int32)), .val (.ref u2), .val (.int (1 : Int32)), .val (.int (2 : Int32)), .val (.int (1 : Int32)), .val (.int c0)] [])) _
    refine XS.iload X4.here hx rfl (hb hby d12_3) rfl ?_
    show Steps p.tables e below (T4.setTop (mkF m 5 #[.val (.ref u0), .val (.int (1 : Int32)), .val (.ref u2), .val (.int (1 : Int32)), .val (.int (2 : Int32)), .val (.int (1 : Int32)), .val (.int c0)] [(.int (1 : Int32))])) _
    refine XS.iload X4.here hx rfl (hb hby d12_5) rfl ?_
    show Steps p.tables e below (T4.setTop (mkF m 7 #[.val (.ref u0), .val (.int (1 : Int32)), .val (.ref u2), .val (.int (1 : Int32)), .val (.int (2 : Int32)), .val (.int (1 : Int32)), .val (.int c0)] [(.int (2 : Int32)), (.int (1 : Int32))])) _
    refine XS.icmpNo X4.here hx rfl (hb hby d12_7) rfl (tlt (by decide : (1 : Int32) < (2 : Int32))).2.1 ?_
    show Steps p.tables e below (T4.setTop (mkF m 10 #[.val (.ref u0), .val (.int (1 : Int32)), .val (.ref u2), .val (.int (1 : Int32)), .val (.int (2 : Int32)), .val (.int (1 : Int32)), .val (.int c0)] [])) _
    refine XS.aloadN X4.here hx rfl (hb hby d12_10) rfl rfl ?_
    show Steps p.tables e below (T4.setTop (mkF m 11 #[.val (.ref u0), .val (.int (1 : Int32)), .val (.ref u2), .val (.int (1 : Int32)), .val (.int (2 : Int32)), .val (.int (1 : Int32)), .val (.int c0)] [(.ref u0)])) _
    refine XS.iloadN X4.here hx rfl (hb hby d12_11) rfl ?_
    show Steps p.tables e below (T4.setTop (mkF m 12 #[.val (.ref u0), .val (.int (1 : Int32)), .val (.ref u2), .val (.int (1 : Int32)), .val (.int (2 : Int32)), .val (.int (1 : Int32)), .val (.int c0)] [(.int (1 : Int32)), (.ref u0)])) _
    refine X4.caload hx (j := (1 : Int32)) (v := (.int c1)) (by rw [e4]; exact Ar5.1) (State.isArrayOf_alike hZ.alike Ar5.2.1) Ar5.2.2 hin5 hat5 (g := (mkF m 12 #[.val (.ref u0), .val (.int (1 : Int32)), .val (.ref u2), .val (.int (1 : Int32)), .val (.int (2 : Int32)), .val (.int (1 : Int32)), .val (.int c0)] [(.int (1 : Int32)), (.ref u0)])) rfl rfl (hb hby d12_12) _ ?_
    show Steps p.tables e below (T4.setTop (mkF m 13 #[.val (.ref u0), .val (.int (1 : Int32)), .val (.ref u2), .val (.int (1 : Int32)), .val (.int (2 : Int32)), .val (.int (1 : Int32)), .val (.int c0)] [(.int c1)])) _
    refine XS.istore X4.here hx rfl (hb hby d12_13) rfl (l' := #[.val (.ref u0), .val (.int (1 : Int32)), .val (.ref u2), .val (.int (1 : Int32)), .val (.int (2 : Int32)), .val (.int (1 : Int32)), .val (.int c1)]) rfl ?_
    show Steps p.tables e below (T4.setTop (mkF m 15 #[.val (.ref u0), .val (.int (1 : Int32)), .val (.ref u2), .val (.int (1 : Int32)), .val (.int (2 : Int32)), .val (.int (1 : Int32)), .val (.int c1)] [])) _
    refine XS.iload X4.here hx rfl (hb hby d12_15) rfl ?_
    show Steps p.tables e below (T4.setTop (mkF m 17 #[.val (.ref u0), .val (.int (1 : Int32)), .val (.ref u2), .val (.int (1 : Int32)), .val (.int (2 : Int32)), .val (.int (1 : Int32)), .val (.int c1)] [(.int c1)])) _
    refine XS.sipush X4.here hx rfl (hb hby d12_17) ?_
    show Steps p.tables e below (T4.setTop (mkF m 20 #[.val (.ref u0), .val (.int (1 : Int32)), .val (.ref u2), .val (.int (1 : Int32)), .val (.int (2 : Int32)), .val (.int (1 : Int32)), .val (.int c1)] [(.int (255 : Int32)), (.int c1)])) _
    refine XS.icmpYes X4.here hx rfl (pc0 := 20) (pc' := 26) rfl (hb hby d12_20) rfl (flt hd20_6).2.2.2 (by decide) (by decide) ?_
    show Steps p.tables e below (T4.setTop (mkF m 26 #[.val (.ref u0), .val (.int (1 : Int32)), .val (.ref u2), .val (.int (1 : Int32)), .val (.int (2 : Int32)), .val (.int (1 : Int32)), .val (.int c1)] [])) _
    refine XS.aloadN X4.here hx rfl (hb hby d12_26) rfl rfl ?_
    show Steps p.tables e below (T4.setTop (mkF m 27 #[.val (.ref u0), .val (.int (1 : Int32)), .val (.ref u2), .val (.int (1 : Int32)), .val (.int (2 : Int32)), .val (.int (1 : Int32)), .val (.int c1)] [(.ref u2)])) _
    refine XS.iloadN X4.here hx rfl (hb hby d12_27) rfl ?_
    show Steps p.tables e below (T4.setTop (mkF m 28 #[.val (.ref u0), .val (.int (1 : Int32)), .val (.ref u2), .val (.int (1 : Int32)), .val (.int (2 : Int32)), .val (.int (1 : Int32)), .val (.int c1)] [(.int (1 : Int32)), (.ref u2)])) _
    refine XS.iload X4.here hx rfl (hb hby d12_28) rfl ?_
    show Steps p.tables e below (T4.setTop (mkF m 30 #[.val (.ref u0), .val (.int (1 : Int32)), .val (.ref u2), .val (.int (1 : Int32)), .val (.int (2 : Int32)), .val (.int (1 : Int32)), .val (.int c1)] [(.int c1), (.int (1 : Int32)), (.ref u2)])) _
    refine XS.i2b X4.here hx rfl (hb hby d12_30) rfl ?_
    show Steps p.tables e below (T4.setTop (mkF m 31 #[.val (.ref u0), .val (.int (1 : Int32)), .val (.ref u2), .val (.int (1 : Int32)), .val (.int (2 : Int32)), .val (.int (1 : Int32)), .val (.int c1)] [(.int (c1.toInt8.toInt32)), (.int (1 : Int32)), (.ref u2)])) _
    refine st8 _ ?_
    show Steps p.tables e below (T8.setTop (mkF m 32 #[.val (.ref u0), .val (.int (1 : Int32)), .val (.ref u2), .val (.int (1 : Int32)), .val (.int (2 : Int32)), .val (.int (1 : Int32)), .val (.int c1)] [])) _
    refine XS.iinc X8.here hx rfl (hb hby d12_32) rfl (l' := #[.val (.ref u0), .val (.int ((1 : Int32) + (1 : Int32))), .val (.ref u2), .val (.int (1 : Int32)), .val (.int (2 : Int32)), .val (.int (1 : Int32)), .val (.int c1)]) rfl ?_
    rw [show ((1 : Int32) + (1 : Int32)) = (2 : Int32) from by decide]
    show Steps p.tables e below (T8.setTop (mkF m 35 #[.val (.ref u0), .val (.int (2 : Int32)), .val (.ref u2), .val (.int (1 : Int32)), .val (.int (2 : Int32)), .val (.int (1 : Int32)), .val (.int c1)] [])) _
    refine XS.iinc X8.here hx rfl (hb hby d12_35) rfl (l' := #[.val (.ref u0), .val (.int (2 : Int32)), .val (.ref u2), .val (.int ((1 : Int32) + (1 : Int32))), .val (.int (2 : Int32)), .val (.int (1 : Int32)), .val (.int c1)]) rfl ?_
    rw [show ((1 : Int32) + (1 : Int32)) = (2 : Int32) from by decide]
    show Steps p.tables e below (T8.setTop (mkF m 38 #[.val (.ref u0), .val (.int (2 : Int32)), .val (.ref u2), .val (.int (2 : Int32)), .val (.int (2 : Int32)), .val (.int (1 : Int32)), .val (.int c1)] [])) _
    refine XS.iinc X8.here hx rfl (hb hby d12_38) rfl (l' := #[.val (.ref u0), .val (.int (2 : Int32)), .val (.ref u2), .val (.int (2 : Int32)), .val (.int (2 : Int32)), .val (.int ((1 : Int32) + (1 : Int32))), .val (.int c1)]) rfl ?_
    rw [show ((1 : Int32) + (1 : Int32)) = (2 : Int32) from by decide]
    show Steps p.tables e below (T8.setTop (mkF m 41 #[.val (.ref u0), .val (.int (2 : Int32)), .val (.ref u2), .val (.int (2 : Int32)), .val (.int (2 : Int32)), .val (.int (2 : Int32)), .val (.int c1)] [])) _
    refine XS.goto X8.here hx rfl (pc0 := 41) (pc' := 3) rfl (hb hby d12_41) (by decide) (by decide) ?_
    show Steps p.tables e below (T8.setTop (mkF m 3 #[.val (.ref u0), .val (.int (2 : Int32)), .val (.ref u2), .val (.int (2 : Int32)), .val (.int (2 : Int32)), .val (.int (2 : Int32)), .val (.int c1)] [])) _
    refine XS.iload X8.here hx rfl (hb hby d12_3) rfl ?_
    show Steps p.tables e below (T8.setTop (mkF m 5 #[.val (.ref u0), .val (.int (2 : Int32)), .val (.ref u2), .val (.int (2 : Int32)), .val (.int (2 : Int32)), .val (.int (2 : Int32)), .val (.int c1)] [(.int (2 : Int32))])) _
    refine XS.iload X8.here hx rfl (hb hby d12_5) rfl ?_
    show Steps p.tables e below (T8.setTop (mkF m 7 #[.val (.ref u0), .val (.int (2 : Int32)), .val (.ref u2), .val (.int (2 : Int32)), .val (.int (2 : Int32)), .val (.int (2 : Int32)), .val (.int c1)] [(.int (2 : Int32)), (.int (2 : Int32))])) _
    refine XS.icmpYes X8.here hx rfl (pc0 := 7) (pc' := 44) rfl (hb hby d12_7) rfl (flt (by decide : ¬ ((2 : Int32) < (2 : Int32)))).2.1 (by decide) (by decide) ?_
    show Steps p.tables e below (T8.setTop (mkF m 44 #[.val (.ref u0), .val (.int (2 : Int32)), .val (.ref u2), .val (.int (2 : Int32)), .val (.int (2 : Int32)), .val (.int (2 : Int32)), .val (.int c1)] [])) _
    refine XS.iload X8.here hx rfl (hb hby d12_44) rfl ?_
    show Steps p.tables e below (T8.setTop (mkF m 46 #[.val (.ref u0), .val (.int (2 : Int32)), .val (.ref u2), .val (.int (2 : Int32)), .val (.int (2 : Int32)), .val (.int (2 : Int32)), .val (.int c1)] [(.int (2 : Int32))])) _
    exact retI X8 hx Bd.returns (hb hby d12_46) hr
  · show Q12 Z u0 u2 kC kB c0 c1 dC dB h0 n0 _ T8.heap _
    rw [e8]
    exact ⟨rfl, N8, Kp8, _, _, V8⟩
theorem d11_0 : decode jdk_52_method_16_code 0 = .ok (.iload_n 2, 1) := by decide +kernel
theorem d11_1 : decode jdk_52_method_16_code 1 = .ok (.newarray .byte, 2) := by decide +kernel
theorem d11_3 : decode jdk_52_method_16_code 3 = .ok (.astore_n 3, 1) := by decide +kernel
theorem d11_4 : decode jdk_52_method_16_code 4 = .ok (.aload_n 0, 1) := by decide +kernel
theorem d11_5 : decode jdk_52_method_16_code 5 = .ok (.iload_n 1, 1) := by decide +kernel
theorem d11_6 : decode jdk_52_method_16_code 6 = .ok (.aload_n 3, 1) := by decide +kernel
theorem d11_7 : decode jdk_52_method_16_code 7 = .ok (.iconst 0, 1) := by decide +kernel
theorem d11_8 : decode jdk_52_method_16_code 8 = .ok (.iload_n 2, 1) := by decide +kernel
theorem d11_9 : decode jdk_52_method_16_code 9 = .ok (.invokestatic 115, 3) := by decide +kernel
theorem d11_12 : decode jdk_52_method_16_code 12 = .ok (.istore 4, 2) := by decide +kernel
theorem d11_14 : decode jdk_52_method_16_code 14 = .ok (.iload 4, 2) := by decide +kernel
theorem d11_16 : decode jdk_52_method_16_code 16 = .ok (.iload_n 2, 1) := by decide +kernel
theorem d11_17 : decode jdk_52_method_16_code 17 = .ok (.if_icmp .eq 40, 3) := by decide +kernel
theorem d11_57 : decode jdk_52_method_16_code 57 = .ok (.aload_n 3, 1) := by decide +kernel
theorem d11_58 : decode jdk_52_method_16_code 58 = .ok (.areturn, 1) := by decide +kernel
theorem pn_11 : plainName "java/lang/StringUTF16" = true := by first | (simp [plainName, overriddenIn]; done) | decide +kernel
theorem pd_3 : parseMethodDescriptor "([CI[BII)I" = some ⟨[(.array .char), .int, (.array .byte), .int, .int], some .int⟩ := by decide +kernel
theorem ef_11 (m : MethodId) (u0 : Addr)  : entryFrame m #[(.ref u0), (.int (0 : Int32)), (.int (2 : Int32))] 6 = mkF m 0 #[.val (.ref u0), .val (.int (0 : Int32)), .val (.int (2 : Int32)), .unset, .unset, .unset] [] := by first | (simp [entryFrame, mkF, argsToLocals, Value.category]; done) | rfl
def Q11 (Z : State) (u0 : Addr) (kC : ClassId) (c0 : Int32) (c1 : Int32) (dC : Value) (h0 : Heap) (n0 : Nat) (v : Option Value) (h : Heap) (L : List Loc) : Prop := ∃ (b : Addr) (k : ClassId) (vs : List Value) (d : Value), v = some (.ref b) ∧ Fr n0 L ∧ Keep h0 h [] ∧ Arv Z h b k .byte (2 : Int32) vs d
set_option maxRecDepth 65536 in
set_option maxHeartbeats 40000000 in
theorem rm11 (l : Launch) (Z : State) (a0 : Array Value) (hw : ∀ d ∈ tables_1, d.before a0 Z = true) (ws : List Jvm.Cond) (u0 : Addr) (kC : ClassId) (c0 : Int32) (c1 : Int32) (dC : Value) (h0 : Heap) (n0 : Nat) (Z0 : n0 ≤ h0.size) (V0 : Arv Z h0 u0 kC .char (2 : Int32) [(.int c0), (.int c1)] dC) (hc0 : ¬ (255 : Int32) < c0) (hc1 : ¬ (255 : Int32) < c1) :
    MetFree l (⟨"java/lang/StringUTF16", "compress", "([CII)[B"⟩ : MethodName) (head1 (Jvm.Cond.code (⟨"java/lang/StringUTF16", "compress", "([CII)[B"⟩ : MethodName) jdk_52_method_16_code 6 (some (.array .byte)) :: ws) ({ frames := 1, cells := 1, slots := 2, locals := 18 } : Room)) (fun a U => a = #[(.ref u0), (.int (0 : Int32)), (.int (2 : Int32))] ∧ Z.Warmed39 U.vm ∧ U.heap = h0) (fun _ _ _ _ _ => True) (fun _ U o U' => ∃ v L, o = .returned v ∧ Q11 Z u0 kC c0 c1 dC h0 n0 v U'.heap L ∧ FrameEnd U o U' L ({ frames := 1, cells := 1, slots := 2, locals := 18 } : Room).cells ({ frames := 1, cells := 1, slots := 2, locals := 18 } : Room).slots) := by
  refine MetFree.of_bodySF (plainFor_of_name pn_11) hisR ?_
  intro p e s m args below meth c s₁ Bd hml0 hP hK
  obtain ⟨rfl, hZ, hh⟩ := hP
  have hx := Bd.exec
  have hby := Bd.bytes
  have hml : c.maxLocals = 6 := hml0
  have hown : s.vm.findClass "java/lang/StringUTF16" = some m.cls := findClass_of_methodNamed Bd.named
  have hnm := (name_of_methodNamed Bd.named Bd.method).1
  have X0 : Stand p l e ({ frames := 1, cells := 1, slots := 2, locals := 18 } : Room) s m #[(.ref u0), (.int (0 : Int32)), (.int (2 : Int32))] below meth c s₁ [] 0 0 := Stand.of_body Bd
  have e0 : s₁.heap = h0 := by rw [← hh, Bd.state]; rfl
  have N0 := Fr.nil n0
  have pre0 : ∀ t, Steps p.tables e below (s₁.setTop (mkF m 0 #[.val (.ref u0), .val (.int (0 : Int32)), .val (.int (2 : Int32)), .unset, .unset, .unset] [])) t → Steps p.tables e below (s₁.setTop (entryFrame m #[(.ref u0), (.int (0 : Int32)), (.int (2 : Int32))] 6)) t := fun t k => castTop (ef_11 m u0) k
  show Done p e below _ _
  refine Done.of ?_ pre0
  obtain ⟨T1, h1, k1, X1, e1, E1, A1, st1⟩ := newP X0 hx hZ (hw _ (List.mem_of_getElem? (i := 59) rfl)) e0 (g := (mkF m 1 #[.val (.ref u0), .val (.int (0 : Int32)), .val (.int (2 : Int32)), .unset, .unset, .unset] [(.int (2 : Int32))])) rfl (hb hby d11_1) rfl (by decide) (cap := 2) (by decide) (by decide) (by decide) (by decide)
  obtain ⟨b1, g1⟩ : ∃ z, z = h0.size := ⟨_, rfl⟩
  rw [← g1] at A1 st1
  have gnb1 : n0 ≤ b1 := Nat.le_trans Z0 (Nat.le_of_eq g1.symm)
  have Z1 : n0 ≤ h1.size := Nat.le_trans Z0 E1.1
  have szb1 : h0.size ≤ b1 := Nat.le_trans (Keep.refl h0 []).1 (Nat.le_of_eq g1.symm)
  have Kp1 := (Keep.refl h0 []).ext E1
  have ne_1_1 : u0 ≠ b1 := Nat.ne_of_lt (Nat.lt_of_lt_of_le V0.lt (Nat.le_of_eq g1.symm))
  have V1 : Arv Z h1 b1 k1 .byte (2 : Int32) [(.int (0 : Int32)), (.int (0 : Int32))] (.int (0 : Int32)) := (Arv.new A1 (by decide)).pad (pad_rep [] (.int (0 : Int32)) 2)
  obtain ⟨_, _, ⟨T2, L2, k2, n2⟩, -, X2, ⟨Lc2, hQ2, l2, y2, z2⟩, st2⟩ := Jvm.LawKit.callS X1 hx (y := (⟨"java/lang/StringUTF16", "compress", "([CI[BII)I"⟩ : MethodName)) hown (mvT hZ (hw _ (List.mem_of_getElem? (i := 105) rfl))) (mvT hZ (hw _ (List.mem_of_getElem? (i := 106) rfl))) (mvT hZ (hw _ (List.mem_of_getElem? (i := 103) rfl))) (mvT hZ (hw _ (List.mem_of_getElem? (i := 107) rfl))) (by decide) (backOf (W := 0) (rm12 l Z a0 hw [] u0 b1 kC k1 c0 c1 _ _ h1 n0 Z1 (V0.ext E1) V1 gnb1 ne_1_1 hc0 hc1) hZ (hw _ (List.mem_of_getElem? (i := 107) rfl)) (hw _ (List.mem_of_getElem? (i := 103) rfl)) (by decide) (by decide)) (g := (mkF m 9 #[.val (.ref u0), .val (.int (0 : Int32)), .val (.int (2 : Int32)), .val (.ref b1), .unset, .unset] [(.int (2 : Int32)), (.int (0 : Int32)), (.ref b1), (.int (0 : Int32)), (.ref u0)])) rfl (by rw [hml]; rfl) (argsL := [(.ref u0), (.int (0 : Int32)), (.ref b1), (.int (0 : Int32)), (.int (2 : Int32))]) (rest := []) (lenOf pd_3 rfl) rfl (by show 2 * 0 + _ ≤ _; exact Nat.le_of_eq rfl) (hb hby d11_9) (fun _ _ => ⟨rfl, e1, (by decide : 1 + 0 ≤ _), (by decide : 2 + 0 ≤ _)⟩)
  dsimp only [Pt.U, Pt.locs, Pt.cells, Pt.slots] at X2 l2 y2 z2 st2 hQ2
  rw [l2, y2, z2] at X2
  obtain ⟨rfl, N2q, K2q, vs2, dv2, VB2⟩ := hQ2
  have N2 := Fr.app N0 N2q
  have Z2 : n0 ≤ T2.heap.size := Nat.le_trans Z1 K2q.1
  have Kp2 := Kp1.trans K2q (fun x hx => Or.inr (by cases List.mem_singleton.mp hx; exact szb1))
  obtain ⟨fs, hr, hrun, hended, hW, hsame⟩ := X2.leave (v := some (.ref b1)) (fun h => by rw [Bd.returns] at h; cases h)
  refine ⟨_, _, ?_, hrun, hended, _, _, rfl, ?_, ⟨_, rfl⟩, hW, hsame.mono (by decide) (by decide)⟩
  · show Steps p.tables e below (s₁.setTop (mkF m 0 #[.val (.ref u0), .val (.int (0 : Int32)), .val (.int (2 : Int32)), .unset, .unset, .unset] [])) _
    refine XS.iloadN X0.here hx rfl (hb hby d11_0) rfl ?_
    show Steps p.tables e below (s₁.setTop (mkF m 1 #[.val (.ref u0), .val (.int (0 : Int32)), .val (.int (2 : Int32)), .unset, .unset, .unset] [(.int (2 : Int32))])) _
    refine st1 _ ?_
    show Steps p.tables e below (T1.setTop (mkF m 3 #[.val (.ref u0), .val (.int (0 : Int32)), .val (.int (2 : Int32)), .unset, .unset, .unset] [(.ref b1)])) _
    refine XS.astoreN X1.here hx rfl (hb hby d11_3) rfl rfl (l' := #[.val (.ref u0), .val (.int (0 : Int32)), .val (.int (2 : Int32)), .val (.ref b1), .unset, .unset]) rfl ?_
    show Steps p.tables e below (T1.setTop (mkF m 4 #[.val (.ref u0), .val (.int (0 : Int32)), .val (.int (2 : Int32)), .val (.ref b1), .unset, .unset] [])) _
    refine XS.aloadN X1.here hx rfl (hb hby d11_4) rfl rfl ?_
    show Steps p.tables e below (T1.setTop (mkF m 5 #[.val (.ref u0), .val (.int (0 : Int32)), .val (.int (2 : Int32)), .val (.ref b1), .unset, .unset] [(.ref u0)])) _
    refine XS.iloadN X1.here hx rfl (hb hby d11_5) rfl ?_
    show Steps p.tables e below (T1.setTop (mkF m 6 #[.val (.ref u0), .val (.int (0 : Int32)), .val (.int (2 : Int32)), .val (.ref b1), .unset, .unset] [(.int (0 : Int32)), (.ref u0)])) _
    refine XS.aloadN X1.here hx rfl (hb hby d11_6) rfl rfl ?_
    show Steps p.tables e below (T1.setTop (mkF m 7 #[.val (.ref u0), .val (.int (0 : Int32)), .val (.int (2 : Int32)), .val (.ref b1), .unset, .unset] [(.ref b1), (.int (0 : Int32)), (.ref u0)])) _
    refine XS.iconst X1.here hx rfl (hb hby d11_7) ?_
    show Steps p.tables e below (T1.setTop (mkF m 8 #[.val (.ref u0), .val (.int (0 : Int32)), .val (.int (2 : Int32)), .val (.ref b1), .unset, .unset] [(.int (0 : Int32)), (.ref b1), (.int (0 : Int32)), (.ref u0)])) _
    refine XS.iloadN X1.here hx rfl (hb hby d11_8) rfl ?_
    show Steps p.tables e below (T1.setTop (mkF m 9 #[.val (.ref u0), .val (.int (0 : Int32)), .val (.int (2 : Int32)), .val (.ref b1), .unset, .unset] [(.int (2 : Int32)), (.int (0 : Int32)), (.ref b1), (.int (0 : Int32)), (.ref u0)])) _
    refine st2 _ ?_
    show Steps p.tables e below (T2.setTop (mkF m 12 #[.val (.ref u0), .val (.int (0 : Int32)), .val (.int (2 : Int32)), .val (.ref b1), .unset, .unset] [(.int (2 : Int32))])) _
    refine XS.istore X2.here hx rfl (hb hby d11_12) rfl (l' := #[.val (.ref u0), .val (.int (0 : Int32)), .val (.int (2 : Int32)), .val (.ref b1), .val (.int (2 : Int32)), .unset]) rfl ?_
    show Steps p.tables e below (T2.setTop (mkF m 14 #[.val (.ref u0), .val (.int (0 : Int32)), .val (.int (2 : Int32)), .val (.ref b1), .val (.int (2 : Int32)), .unset] [])) _
    refine XS.iload X2.here hx rfl (hb hby d11_14) rfl ?_
    show Steps p.tables e below (T2.setTop (mkF m 16 #[.val (.ref u0), .val (.int (0 : Int32)), .val (.int (2 : Int32)), .val (.ref b1), .val (.int (2 : Int32)), .unset] [(.int (2 : Int32))])) _
    refine XS.iloadN X2.here hx rfl (hb hby d11_16) rfl ?_
    show Steps p.tables e below (T2.setTop (mkF m 17 #[.val (.ref u0), .val (.int (0 : Int32)), .val (.int (2 : Int32)), .val (.ref b1), .val (.int (2 : Int32)), .unset] [(.int (2 : Int32)), (.int (2 : Int32))])) _
    refine XS.icmpYes X2.here hx rfl (pc0 := 17) (pc' := 57) rfl (hb hby d11_17) rfl (teq (rfl : (2 : Int32) = (2 : Int32))).1 (by decide) (by decide) ?_
    show Steps p.tables e below (T2.setTop (mkF m 57 #[.val (.ref u0), .val (.int (0 : Int32)), .val (.int (2 : Int32)), .val (.ref b1), .val (.int (2 : Int32)), .unset] [])) _
    refine XS.aloadN X2.here hx rfl (hb hby d11_57) rfl rfl ?_
    show Steps p.tables e below (T2.setTop (mkF m 58 #[.val (.ref u0), .val (.int (0 : Int32)), .val (.int (2 : Int32)), .val (.ref b1), .val (.int (2 : Int32)), .unset] [(.ref b1)])) _
    jvm_step X2.here [X2.here.top, hx, (hb hby d11_58), X2.method', Bd.returns, Value.isRef, FieldType.isReference]
    first | (intro acts; rw [hr _ acts rfl rfl rfl]) | rw [hr _ _ rfl rfl rfl]
    exact Steps.refl _
  · show Q11 Z u0 kC c0 c1 dC h0 n0 _ T2.heap _
    exact ⟨b1, _, _, _, rfl, N2, Kp2, VB2⟩
theorem d13_0 : decode jdk_52_method_15_code 0 = .ok (.iload_n 1, 1) := by decide +kernel
theorem d13_1 : decode jdk_52_method_15_code 1 = .ok (.aload_n 0, 1) := by decide +kernel
theorem d13_2 : decode jdk_52_method_15_code 2 = .ok (.arraylength, 1) := by decide +kernel
theorem d13_3 : decode jdk_52_method_15_code 3 = .ok (.isub, 1) := by decide +kernel
theorem d13_4 : decode jdk_52_method_15_code 4 = .ok (.bipush 31, 2) := by decide +kernel
theorem d13_6 : decode jdk_52_method_15_code 6 = .ok (.iushr, 1) := by decide +kernel
theorem d13_7 : decode jdk_52_method_15_code 7 = .ok (.i2b, 1) := by decide +kernel
theorem d13_8 : decode jdk_52_method_15_code 8 = .ok (.ireturn, 1) := by decide +kernel
theorem pn_13 : plainName "java/lang/StringUTF16" = true := by first | (simp [plainName, overriddenIn]; done) | decide +kernel
theorem ef_13 (m : MethodId) (u0 : Addr)  : entryFrame m #[(.ref u0), (.int (2 : Int32))] 2 = mkF m 0 #[.val (.ref u0), .val (.int (2 : Int32))] [] := by first | (simp [entryFrame, mkF, argsToLocals, Value.category]; done) | rfl
def Q13 (Z : State) (u0 : Addr) (kB : ClassId) (vs : List Value) (d : Value) (h0 : Heap) (n0 : Nat) (v : Option Value) (h : Heap) (L : List Loc) : Prop := v = some (.int (0 : Int32)) ∧ Fr n0 L ∧ h = h0
set_option maxRecDepth 65536 in
set_option maxHeartbeats 40000000 in
theorem rm13 (l : Launch) (Z : State) (a0 : Array Value) (hw : ∀ d ∈ tables_1, d.before a0 Z = true) (ws : List Jvm.Cond) (u0 : Addr) (kB : ClassId) (vs : List Value) (d : Value) (h0 : Heap) (n0 : Nat) (Z0 : n0 ≤ h0.size) (V0 : Arv Z h0 u0 kB .byte (2 : Int32) vs d) :
    MetFree l (⟨"java/lang/StringUTF16", "coderFromArrayLen", "([BI)B"⟩ : MethodName) (head1 (Jvm.Cond.code (⟨"java/lang/StringUTF16", "coderFromArrayLen", "([BI)B"⟩ : MethodName) jdk_52_method_15_code 2 (some .byte) :: ws) ({ frames := 0, cells := 0, slots := 0, locals := 0 } : Room)) (fun a U => a = #[(.ref u0), (.int (2 : Int32))] ∧ Z.Warmed39 U.vm ∧ U.heap = h0) (fun _ _ _ _ _ => True) (fun _ U o U' => ∃ v L, o = .returned v ∧ Q13 Z u0 kB vs d h0 n0 v U'.heap L ∧ FrameEnd U o U' L ({ frames := 0, cells := 0, slots := 0, locals := 0 } : Room).cells ({ frames := 0, cells := 0, slots := 0, locals := 0 } : Room).slots) := by
  refine MetFree.of_bodySF (plainFor_of_name pn_13) hisR ?_
  intro p e s m args below meth c s₁ Bd hml0 hP hK
  obtain ⟨rfl, hZ, hh⟩ := hP
  have hx := Bd.exec
  have hby := Bd.bytes
  have hml : c.maxLocals = 2 := hml0
  have hown : s.vm.findClass "java/lang/StringUTF16" = some m.cls := findClass_of_methodNamed Bd.named
  have hnm := (name_of_methodNamed Bd.named Bd.method).1
  have X0 : Stand p l e ({ frames := 0, cells := 0, slots := 0, locals := 0 } : Room) s m #[(.ref u0), (.int (2 : Int32))] below meth c s₁ [] 0 0 := Stand.of_body Bd
  have e0 : s₁.heap = h0 := by rw [← hh, Bd.state]; rfl
  have N0 := Fr.nil n0
  have pre0 : ∀ t, Steps p.tables e below (s₁.setTop (mkF m 0 #[.val (.ref u0), .val (.int (2 : Int32))] [])) t → Steps p.tables e below (s₁.setTop (entryFrame m #[(.ref u0), (.int (2 : Int32))] 2)) t := fun t k => castTop (ef_13 m u0) k
  show Done p e below _ _
  refine Done.of ?_ pre0
  obtain ⟨cl1, Ar1, qq1, S1, M1, H1, G1⟩ := id V0
  obtain ⟨fs, hr, hrun, hended, hW, hsame⟩ := X0.leave (v := some (.int (nar .byte ((((0 : Int32).toUInt32 >>> ((31 : Int32) &&& 31).toUInt32).toInt32).toInt8.toInt32)))) (fun h => by rw [Bd.returns] at h; cases h)
  refine ⟨_, _, ?_, hrun, hended, _, _, rfl, ?_, ⟨_, rfl⟩, hW, hsame.mono (by decide) (by decide)⟩
  · show Steps p.tables e below (s₁.setTop (mkF m 0 #[.val (.ref u0), .val (.int (2 : Int32))] [])) _
    refine XS.iloadN X0.here hx rfl (hb hby d13_0) rfl ?_
    show Steps p.tables e below (s₁.setTop (mkF m 1 #[.val (.ref u0), .val (.int (2 : Int32))] [(.int (2 : Int32))])) _
    refine XS.aloadN X0.here hx rfl (hb hby d13_1) rfl rfl ?_
    show Steps p.tables e below (s₁.setTop (mkF m 2 #[.val (.ref u0), .val (.int (2 : Int32))] [(.ref u0), (.int (2 : Int32))])) _
    refine X0.arraylength hx (by rw [e0]; exact Ar1.1) (State.isArrayOf_alike hZ.alike Ar1.2.1) (g := (mkF m 2 #[.val (.ref u0), .val (.int (2 : Int32))] [(.ref u0), (.int (2 : Int32))])) rfl rfl (hb hby d13_2) _ ?_
    rw [len_of S1 M1]
    show Steps p.tables e below (s₁.setTop (mkF m 3 #[.val (.ref u0), .val (.int (2 : Int32))] [(.int (2 : Int32)), (.int (2 : Int32))])) _
    refine XS.isub X0.here hx rfl (hb hby d13_3) rfl ?_
    rw [show ((2 : Int32) - (2 : Int32)) = (0 : Int32) from by decide]
    show Steps p.tables e below (s₁.setTop (mkF m 4 #[.val (.ref u0), .val (.int (2 : Int32))] [(.int (0 : Int32))])) _
    refine XS.bipush X0.here hx rfl (hb hby d13_4) ?_
    show Steps p.tables e below (s₁.setTop (mkF m 6 #[.val (.ref u0), .val (.int (2 : Int32))] [(.int (31 : Int32)), (.int (0 : Int32))])) _
    refine XS.iushr X0.here hx rfl (hb hby d13_6) rfl ?_
    show Steps p.tables e below (s₁.setTop (mkF m 7 #[.val (.ref u0), .val (.int (2 : Int32))] [(.int (((0 : Int32).toUInt32 >>> ((31 : Int32) &&& 31).toUInt32).toInt32))])) _
    refine XS.i2b X0.here hx rfl (hb hby d13_7) rfl ?_
    show Steps p.tables e below (s₁.setTop (mkF m 8 #[.val (.ref u0), .val (.int (2 : Int32))] [(.int ((((0 : Int32).toUInt32 >>> ((31 : Int32) &&& 31).toUInt32).toInt32).toInt8.toInt32))])) _
    exact retN X0 hx (t := .byte) Bd.returns (by simp) (hb hby d13_8) hr
  · show Q13 Z u0 kB vs d h0 n0 _ s₁.heap _
    rw [e0]
    refine ⟨?_, N0, rfl⟩
    rfl
theorem d10_0 : decode jdk_42_method_149_code 0 = .ok (.aload_n 0, 1) := by decide +kernel
theorem d10_1 : decode jdk_42_method_149_code 1 = .ok (.invokespecial 1, 3) := by decide +kernel
theorem d10_4 : decode jdk_42_method_149_code 4 = .ok (.iload_n 3, 1) := by decide +kernel
theorem d10_5 : decode jdk_42_method_149_code 5 = .ok (.ifCond .ne 22, 3) := by decide +kernel
theorem d10_27 : decode jdk_42_method_149_code 27 = .ok (.getstatic 38, 3) := by decide +kernel
theorem d10_30 : decode jdk_42_method_149_code 30 = .ok (.ifCond .eq 28, 3) := by decide +kernel
theorem d10_33 : decode jdk_42_method_149_code 33 = .ok (.aload_n 1, 1) := by decide +kernel
theorem d10_34 : decode jdk_42_method_149_code 34 = .ok (.iload_n 2, 1) := by decide +kernel
theorem d10_35 : decode jdk_42_method_149_code 35 = .ok (.iload_n 3, 1) := by decide +kernel
theorem d10_36 : decode jdk_42_method_149_code 36 = .ok (.invokestatic 177, 3) := by decide +kernel
theorem d10_39 : decode jdk_42_method_149_code 39 = .ok (.astore 5, 2) := by decide +kernel
theorem d10_41 : decode jdk_42_method_149_code 41 = .ok (.aload_n 0, 1) := by decide +kernel
theorem d10_42 : decode jdk_42_method_149_code 42 = .ok (.aload 5, 2) := by decide +kernel
theorem d10_44 : decode jdk_42_method_149_code 44 = .ok (.iload_n 3, 1) := by decide +kernel
theorem d10_45 : decode jdk_42_method_149_code 45 = .ok (.invokestatic 47, 3) := by decide +kernel
theorem d10_48 : decode jdk_42_method_149_code 48 = .ok (.putfield 15, 3) := by decide +kernel
theorem d10_51 : decode jdk_42_method_149_code 51 = .ok (.aload_n 0, 1) := by decide +kernel
theorem d10_52 : decode jdk_42_method_149_code 52 = .ok (.aload 5, 2) := by decide +kernel
theorem d10_54 : decode jdk_42_method_149_code 54 = .ok (.putfield 9, 3) := by decide +kernel
theorem d10_57 : decode jdk_42_method_149_code 57 = .ok (.return_, 1) := by decide +kernel
theorem pn_10 : plainName "java/lang/String" = true := by first | (simp [plainName, overriddenIn]; done) | decide +kernel
theorem pd_4 : parseMethodDescriptor "([CII)[B" = some ⟨[(.array .char), .int, .int], some (.array .byte)⟩ := by decide +kernel
theorem pd_5 : parseMethodDescriptor "([BI)B" = some ⟨[(.array .byte), .int], some .byte⟩ := by decide +kernel
theorem ef_10t (m : MethodId) (u0 : Addr) (u1 : Addr)  : entryFrame m #[(.ref u0), (.ref u1), (.int (0 : Int32)), (.int (2 : Int32)), .null] 6 = mkF m 0 #[.val (.ref u0), .val (.ref u1), .val (.int (0 : Int32)), .val (.int (2 : Int32)), .val .null, .unset] [] := by first | (simp [entryFrame, mkF, argsToLocals, Value.category]; done) | rfl
def Q10t (Z : State) (u0 : Addr) (u1 : Addr) (kC : ClassId) (c0 : Int32) (c1 : Int32) (dC : Value) (cs : Int32) (h0 : Heap) (n0 : Nat) (v : Option Value) (h : Heap) (L : List Loc) : Prop := v = none ∧ Fr n0 L ∧ Keep h0 h [u0]
set_option maxRecDepth 65536 in
set_option maxHeartbeats 40000000 in
theorem rm10t (l : Launch) (Z : State) (a0 : Array Value) (hw : ∀ d ∈ tables_1, d.before a0 Z = true) (ws : List Jvm.Cond) (u0 : Addr) (u1 : Addr) (kC : ClassId) (c0 : Int32) (c1 : Int32) (dC : Value) (cs : Int32) (h0 : Heap) (n0 : Nat) (Z0 : n0 ≤ h0.size) (E0 : Exa Z h0 u0 "java/lang/String") (g0 : n0 ≤ u0) (F_value : Fld Z h0 u0 "java/lang/String" "value" "[B" .null) (F_coder : Fld Z h0 u0 "java/lang/String" "coder" "B" (.int (0 : Int32))) (V0 : Arv Z h0 u1 kC .char (2 : Int32) [(.int c0), (.int c1)] dC) (hc0 : ¬ (255 : Int32) < c0) (hc1 : ¬ (255 : Int32) < c1) (SCS : Sta Z h0 "java/lang/String" "COMPACT_STRINGS" "Z" (.int cs)) (hcs : ¬ cs = (0 : Int32)) :
    MetFree l (⟨"java/lang/String", "<init>", "([CIILjava/lang/Void;)V"⟩ : MethodName) (head1 (Jvm.Cond.code (⟨"java/lang/String", "<init>", "([CIILjava/lang/Void;)V"⟩ : MethodName) jdk_42_method_149_code 6 none :: ws) ({ frames := 2, cells := 1, slots := 2, locals := 35 } : Room)) (fun a U => a = #[(.ref u0), (.ref u1), (.int (0 : Int32)), (.int (2 : Int32)), .null] ∧ Z.Warmed39 U.vm ∧ U.heap = h0) (fun _ _ _ _ _ => True) (fun _ U o U' => ∃ v L, o = .returned v ∧ Q10t Z u0 u1 kC c0 c1 dC cs h0 n0 v U'.heap L ∧ FrameEnd U o U' L ({ frames := 2, cells := 1, slots := 2, locals := 35 } : Room).cells ({ frames := 2, cells := 1, slots := 2, locals := 35 } : Room).slots) := by
  refine MetFree.of_bodySF (plainFor_of_name pn_10) hisR ?_
  intro p e s m args below meth c s₁ Bd hml0 hP hK
  obtain ⟨rfl, hZ, hh⟩ := hP
  have hx := Bd.exec
  have hby := Bd.bytes
  have hml : c.maxLocals = 6 := hml0
  have hown : s.vm.findClass "java/lang/String" = some m.cls := findClass_of_methodNamed Bd.named
  have hnm := (name_of_methodNamed Bd.named Bd.method).1
  have X0 : Stand p l e ({ frames := 2, cells := 1, slots := 2, locals := 35 } : Room) s m #[(.ref u0), (.ref u1), (.int (0 : Int32)), (.int (2 : Int32)), .null] below meth c s₁ [] 0 0 := Stand.of_body Bd
  have e0 : s₁.heap = h0 := by rw [← hh, Bd.state]; rfl
  have N0 := Fr.nil n0
  have pre0 : ∀ t, Steps p.tables e below (s₁.setTop (mkF m 0 #[.val (.ref u0), .val (.ref u1), .val (.int (0 : Int32)), .val (.int (2 : Int32)), .val .null, .unset] [])) t → Steps p.tables e below (s₁.setTop (entryFrame m #[(.ref u0), (.ref u1), (.int (0 : Int32)), (.int (2 : Int32)), .null] 6)) t := fun t k => castTop (ef_10t m u0 u1) k
  show Done p e below _ _
  refine Done.of ?_ pre0
  obtain ⟨T1, X1, e1, st1⟩ := initO X0 hx hZ hown (hw _ (List.mem_of_getElem? (i := 64) rfl)) (hw _ (List.mem_of_getElem? (i := 65) rfl)) (hw _ (List.mem_of_getElem? (i := 66) rfl)) e0 (g := (mkF m 1 #[.val (.ref u0), .val (.ref u1), .val (.int (0 : Int32)), .val (.int (2 : Int32)), .val .null, .unset] [(.ref u0)])) rfl (by rw [hml]; rfl) rfl (hb hby d10_1) (by decide) (W := 0) (by show 2 * 0 + _ ≤ _; exact Nat.le_of_eq rfl) (by decide)
  obtain ⟨T2, X2, e2, st2⟩ := getS2 X1 hx hZ hown (host := "") (Or.inl (hw _ (List.mem_of_getElem? (i := 49) rfl))) Via.refl e1 SCS (g := (mkF m 27 #[.val (.ref u0), .val (.ref u1), .val (.int (0 : Int32)), .val (.int (2 : Int32)), .val .null, .unset] [])) rfl (hb hby d10_27)
  have hd30_3 : ¬ (cs = (0 : Int32)) := by exact hcs
  obtain ⟨_, _, ⟨T4, L4, k4, n4⟩, -, X4, ⟨Lc4, hQ4, l4, y4, z4⟩, st4⟩ := Jvm.LawKit.callS X2 hx (y := (⟨"java/lang/StringUTF16", "compress", "([CII)[B"⟩ : MethodName)) hown (mvT hZ (hw _ (List.mem_of_getElem? (i := 101) rfl))) (mvT hZ (hw _ (List.mem_of_getElem? (i := 102) rfl))) (mvT hZ (hw _ (List.mem_of_getElem? (i := 103) rfl))) (mvT hZ (hw _ (List.mem_of_getElem? (i := 104) rfl))) (by decide) (backOf (W := 0) (rm11 l Z a0 hw [] u1 kC c0 c1 _ h0 n0 Z0 V0 hc0 hc1) hZ (hw _ (List.mem_of_getElem? (i := 104) rfl)) (hw _ (List.mem_of_getElem? (i := 103) rfl)) (by decide) (by decide)) (g := (mkF m 36 #[.val (.ref u0), .val (.ref u1), .val (.int (0 : Int32)), .val (.int (2 : Int32)), .val .null, .unset] [(.int (2 : Int32)), (.int (0 : Int32)), (.ref u1)])) rfl (by rw [hml]; rfl) (argsL := [(.ref u1), (.int (0 : Int32)), (.int (2 : Int32))]) (rest := []) (lenOf pd_4 rfl) rfl (by show 2 * 0 + _ ≤ _; exact Nat.le_of_eq rfl) (hb hby d10_36) (fun _ _ => ⟨rfl, e2, (by decide : 0 + 1 ≤ _), (by decide : 0 + 2 ≤ _)⟩)
  dsimp only [Pt.U, Pt.locs, Pt.cells, Pt.slots] at X4 l4 y4 z4 st4 hQ4
  rw [l4, y4, z4] at X4
  obtain ⟨b4, kb4, vs4, dv4, rfl, N4q, K4q, VB4⟩ := hQ4
  have N4 := Fr.app N0 N4q
  have Z4 : n0 ≤ T4.heap.size := Nat.le_trans Z0 K4q.1
  have Kp4 := (Keep.refl h0 [u0]).trans K4q (fun x hx => nomatch hx)
  obtain ⟨_, _, ⟨T5, L5, k5, n5⟩, -, X5, ⟨Lc5, hQ5, l5, y5, z5⟩, st5⟩ := Jvm.LawKit.callS X4 hx (y := (⟨"java/lang/StringUTF16", "coderFromArrayLen", "([BI)B"⟩ : MethodName)) hown (mvT hZ (hw _ (List.mem_of_getElem? (i := 108) rfl))) (mvT hZ (hw _ (List.mem_of_getElem? (i := 109) rfl))) (mvT hZ (hw _ (List.mem_of_getElem? (i := 103) rfl))) (mvT hZ (hw _ (List.mem_of_getElem? (i := 110) rfl))) (by decide) (backOf (W := 1) (rm13 l Z a0 hw [] b4 kb4 vs4 dv4 T4.heap n0 Z4 VB4) hZ (hw _ (List.mem_of_getElem? (i := 110) rfl)) (hw _ (List.mem_of_getElem? (i := 103) rfl)) (by decide) (by decide)) (g := (mkF m 45 #[.val (.ref u0), .val (.ref u1), .val (.int (0 : Int32)), .val (.int (2 : Int32)), .val .null, .val (.ref b4)] [(.int (2 : Int32)), (.ref b4), (.ref u0)])) rfl (by rw [hml]; rfl) (argsL := [(.ref b4), (.int (2 : Int32))]) (rest := [(.ref u0)]) (lenOf pd_5 rfl) rfl (by show 2 * 0 + _ ≤ _; exact Nat.le_of_eq rfl) (hb hby d10_45) (fun _ _ => ⟨rfl, rfl, (by decide : 1 + 0 ≤ _), (by decide : 2 + 0 ≤ _)⟩)
  dsimp only [Pt.U, Pt.locs, Pt.cells, Pt.slots] at X5 l5 y5 z5 st5 hQ5
  rw [l5, y5, z5] at X5
  obtain ⟨rfl, N5q, e5⟩ := hQ5
  have N5 := Fr.app N4 N5q
  obtain ⟨T6, h6, X6, e6, W6, st6⟩ := putFN X5 hx hZ hown (hw _ (List.mem_of_getElem? (i := 69) rfl)) Via.refl e5 (F_coder.keep K4q (by simp)) (E0.keep K4q) (Or.inr ⟨(hw _ (List.mem_of_getElem? (i := 70) rfl)), rfl, hnm⟩) (hw _ (List.mem_of_getElem? (i := 55) rfl)) (ty := .byte) (v' := .int ((0 : Int32).toInt8.toInt32)) (by decide) rfl (fits_nar_byte _) (g := (mkF m 48 #[.val (.ref u0), .val (.ref u1), .val (.int (0 : Int32)), .val (.int (2 : Int32)), .val .null, .val (.ref b4)] [(.int (0 : Int32)), (.ref u0)])) rfl rfl (hb hby d10_48)
  have Fw6 := Fld.same W6 (F_coder.keep K4q (by simp))
  have N6 := Fr.snoc X6 N5 g0
  have Z6 : n0 ≤ h6.size := Nat.le_trans Z4 (Nat.le_of_eq W6.size.symm)
  have Kp6 := Kp4.wr W6 (Or.inl (List.mem_of_getElem? (i := 0) rfl))
  have cy7 := (F_value.keep K4q (by simp))
  have cy8 := (cy7.other W6 (Or.inr (slot_ne (Or.inr (hw _ (List.mem_of_getElem? (i := 68) rfl))) (Or.inr (hw _ (List.mem_of_getElem? (i := 70) rfl))) (by decide) (t := (.array .byte)) (t' := .byte) (by decide) (by decide))))
  have cy9 := (E0.keep K4q)
  have cy10 := (cy9.wr W6)
  obtain ⟨T11, h11, X11, e11, W11, st11⟩ := putF X6 hx hZ hown (host := "") (Or.inl (hw _ (List.mem_of_getElem? (i := 67) rfl))) Via.refl e6 cy8 cy10 (Or.inr ⟨(hw _ (List.mem_of_getElem? (i := 68) rfl)), rfl, hnm⟩) (hw _ (List.mem_of_getElem? (i := 55) rfl)) (ty := (.array .byte)) (by decide) rfl rfl (g := (mkF m 54 #[.val (.ref u0), .val (.ref u1), .val (.int (0 : Int32)), .val (.int (2 : Int32)), .val .null, .val (.ref b4)] [(.ref b4), (.ref u0)])) rfl rfl (hb hby d10_54)
  have Fw11 := Fld.same W11 cy8
  have N11 := Fr.snoc X11 N6 g0
  have Z11 : n0 ≤ h11.size := Nat.le_trans Z6 (Nat.le_of_eq W11.size.symm)
  have Kp11 := Kp6.wr W11 (Or.inl (List.mem_of_getElem? (i := 0) rfl))
  obtain ⟨fs, hr, hrun, hended, hW, hsame⟩ := X11.leave (v := none) (fun _ => rfl)
  refine ⟨_, _, ?_, hrun, hended, _, _, rfl, ?_, ⟨_, rfl⟩, hW, hsame.mono (by decide) (by decide)⟩
  · show Steps p.tables e below (s₁.setTop (mkF m 0 #[.val (.ref u0), .val (.ref u1), .val (.int (0 : Int32)), .val (.int (2 : Int32)), .val .null, .unset] [])) _
    refine XS.aloadN X0.here hx rfl (hb hby d10_0) rfl rfl ?_
    show Steps p.tables e below (s₁.setTop (mkF m 1 #[.val (.ref u0), .val (.ref u1), .val (.int (0 : Int32)), .val (.int (2 : Int32)), .val .null, .unset] [(.ref u0)])) _
    refine st1 _ ?_
    show Steps p.tables e below (T1.setTop (mkF m 4 #[.val (.ref u0), .val (.ref u1), .val (.int (0 : Int32)), .val (.int (2 : Int32)), .val .null, .unset] [])) _
    refine XS.iloadN X1.here hx rfl (hb hby d10_4) rfl ?_
    show Steps p.tables e below (T1.setTop (mkF m 5 #[.val (.ref u0), .val (.ref u1), .val (.int (0 : Int32)), .val (.int (2 : Int32)), .val .null, .unset] [(.int (2 : Int32))])) _
    refine XS.ifYes X1.here hx rfl (pc0 := 5) (pc' := 27) rfl (hb hby d10_5) rfl ((if0 _ _).trans (feq (by decide : ¬ ((2 : Int32) = (0 : Int32)))).2) (by decide) (by decide) ?_
    show Steps p.tables e below (T1.setTop (mkF m 27 #[.val (.ref u0), .val (.ref u1), .val (.int (0 : Int32)), .val (.int (2 : Int32)), .val .null, .unset] [])) _
    refine st2 _ ?_
    show Steps p.tables e below (T2.setTop (mkF m 30 #[.val (.ref u0), .val (.ref u1), .val (.int (0 : Int32)), .val (.int (2 : Int32)), .val .null, .unset] [(.int cs)])) _
    refine XS.ifNo X2.here hx rfl (hb hby d10_30) rfl ((if0 _ _).trans (feq hd30_3).1) ?_
    show Steps p.tables e below (T2.setTop (mkF m 33 #[.val (.ref u0), .val (.ref u1), .val (.int (0 : Int32)), .val (.int (2 : Int32)), .val .null, .unset] [])) _
    refine XS.aloadN X2.here hx rfl (hb hby d10_33) rfl rfl ?_
    show Steps p.tables e below (T2.setTop (mkF m 34 #[.val (.ref u0), .val (.ref u1), .val (.int (0 : Int32)), .val (.int (2 : Int32)), .val .null, .unset] [(.ref u1)])) _
    refine XS.iloadN X2.here hx rfl (hb hby d10_34) rfl ?_
    show Steps p.tables e below (T2.setTop (mkF m 35 #[.val (.ref u0), .val (.ref u1), .val (.int (0 : Int32)), .val (.int (2 : Int32)), .val .null, .unset] [(.int (0 : Int32)), (.ref u1)])) _
    refine XS.iloadN X2.here hx rfl (hb hby d10_35) rfl ?_
    show Steps p.tables e below (T2.setTop (mkF m 36 #[.val (.ref u0), .val (.ref u1), .val (.int (0 : Int32)), .val (.int (2 : Int32)), .val .null, .unset] [(.int (2 : Int32)), (.int (0 : Int32)), (.ref u1)])) _
    refine st4 _ ?_
    show Steps p.tables e below (T4.setTop (mkF m 39 #[.val (.ref u0), .val (.ref u1), .val (.int (0 : Int32)), .val (.int (2 : Int32)), .val .null, .unset] [(.ref b4)])) _
    refine XS.astore X4.here hx rfl (hb hby d10_39) rfl rfl (l' := #[.val (.ref u0), .val (.ref u1), .val (.int (0 : Int32)), .val (.int (2 : Int32)), .val .null, .val (.ref b4)]) rfl ?_
    show Steps p.tables e below (T4.setTop (mkF m 41 #[.val (.ref u0), .val (.ref u1), .val (.int (0 : Int32)), .val (.int (2 : Int32)), .val .null, .val (.ref b4)] [])) _
    refine XS.aloadN X4.here hx rfl (hb hby d10_41) rfl rfl ?_
    show Steps p.tables e below (T4.setTop (mkF m 42 #[.val (.ref u0), .val (.ref u1), .val (.int (0 : Int32)), .val (.int (2 : Int32)), .val .null, .val (.ref b4)] [(.ref u0)])) _
    refine XS.aload X4.here hx rfl (hb hby d10_42) rfl rfl ?_
    show Steps p.tables e below (T4.setTop (mkF m 44 #[.val (.ref u0), .val (.ref u1), .val (.int (0 : Int32)), .val (.int (2 : Int32)), .val .null, .val (.ref b4)] [(.ref b4), (.ref u0)])) _
    refine XS.iloadN X4.here hx rfl (hb hby d10_44) rfl ?_
    show Steps p.tables e below (T4.setTop (mkF m 45 #[.val (.ref u0), .val (.ref u1), .val (.int (0 : Int32)), .val (.int (2 : Int32)), .val .null, .val (.ref b4)] [(.int (2 : Int32)), (.ref b4), (.ref u0)])) _
    refine st5 _ ?_
    show Steps p.tables e below (T5.setTop (mkF m 48 #[.val (.ref u0), .val (.ref u1), .val (.int (0 : Int32)), .val (.int (2 : Int32)), .val .null, .val (.ref b4)] [(.int (0 : Int32)), (.ref u0)])) _
    refine st6 _ ?_
    show Steps p.tables e below (T6.setTop (mkF m 51 #[.val (.ref u0), .val (.ref u1), .val (.int (0 : Int32)), .val (.int (2 : Int32)), .val .null, .val (.ref b4)] [])) _
    refine XS.aloadN X6.here hx rfl (hb hby d10_51) rfl rfl ?_
    show Steps p.tables e below (T6.setTop (mkF m 52 #[.val (.ref u0), .val (.ref u1), .val (.int (0 : Int32)), .val (.int (2 : Int32)), .val .null, .val (.ref b4)] [(.ref u0)])) _
    refine XS.aload X6.here hx rfl (hb hby d10_52) rfl rfl ?_
    show Steps p.tables e below (T6.setTop (mkF m 54 #[.val (.ref u0), .val (.ref u1), .val (.int (0 : Int32)), .val (.int (2 : Int32)), .val .null, .val (.ref b4)] [(.ref b4), (.ref u0)])) _
    refine st11 _ ?_
    show Steps p.tables e below (T11.setTop (mkF m 57 #[.val (.ref u0), .val (.ref u1), .val (.int (0 : Int32)), .val (.int (2 : Int32)), .val .null, .val (.ref b4)] [])) _
    exact X11.returnOut hx Bd.returns (hb hby d10_57) hr
  · show Q10t Z u0 u1 kC c0 c1 dC cs h0 n0 _ T11.heap _
    rw [e11]
    exact ⟨rfl, N11, Kp11⟩
theorem d9_0 : decode jdk_42_method_3_code 0 = .ok (.aload_n 0, 1) := by decide +kernel
theorem d9_1 : decode jdk_42_method_3_code 1 = .ok (.aload_n 1, 1) := by decide +kernel
theorem d9_2 : decode jdk_42_method_3_code 2 = .ok (.iconst 0, 1) := by decide +kernel
theorem d9_3 : decode jdk_42_method_3_code 3 = .ok (.aload_n 1, 1) := by decide +kernel
theorem d9_4 : decode jdk_42_method_3_code 4 = .ok (.arraylength, 1) := by decide +kernel
theorem d9_5 : decode jdk_42_method_3_code 5 = .ok (.aconst_null, 1) := by decide +kernel
theorem d9_6 : decode jdk_42_method_3_code 6 = .ok (.invokespecial 27, 3) := by decide +kernel
theorem d9_9 : decode jdk_42_method_3_code 9 = .ok (.return_, 1) := by decide +kernel
theorem pn_9 : plainName "java/lang/String" = true := by first | (simp [plainName, overriddenIn]; done) | decide +kernel
theorem pd_6 : parseMethodDescriptor "([CIILjava/lang/Void;)V" = some ⟨[(.array .char), .int, .int, (.object "java/lang/Void")], none⟩ := by decide +kernel
theorem ef_9t (m : MethodId) (u0 : Addr) (u1 : Addr)  : entryFrame m #[(.ref u0), (.ref u1)] 2 = mkF m 0 #[.val (.ref u0), .val (.ref u1)] [] := by first | (simp [entryFrame, mkF, argsToLocals, Value.category]; done) | rfl
def Q9t (Z : State) (u0 : Addr) (u1 : Addr) (kC : ClassId) (c0 : Int32) (c1 : Int32) (dC : Value) (cs : Int32) (h0 : Heap) (n0 : Nat) (v : Option Value) (h : Heap) (L : List Loc) : Prop := v = none ∧ Fr n0 L ∧ Keep h0 h [u0]
set_option maxRecDepth 65536 in
set_option maxHeartbeats 40000000 in
theorem rm9t (l : Launch) (Z : State) (a0 : Array Value) (hw : ∀ d ∈ tables_1, d.before a0 Z = true) (ws : List Jvm.Cond) (u0 : Addr) (u1 : Addr) (kC : ClassId) (c0 : Int32) (c1 : Int32) (dC : Value) (cs : Int32) (h0 : Heap) (n0 : Nat) (Z0 : n0 ≤ h0.size) (E0 : Exa Z h0 u0 "java/lang/String") (g0 : n0 ≤ u0) (F_value : Fld Z h0 u0 "java/lang/String" "value" "[B" .null) (F_coder : Fld Z h0 u0 "java/lang/String" "coder" "B" (.int (0 : Int32))) (V0 : Arv Z h0 u1 kC .char (2 : Int32) [(.int c0), (.int c1)] dC) (hc0 : ¬ (255 : Int32) < c0) (hc1 : ¬ (255 : Int32) < c1) (SCS : Sta Z h0 "java/lang/String" "COMPACT_STRINGS" "Z" (.int cs)) (hcs : ¬ cs = (0 : Int32)) :
    MetFree l (⟨"java/lang/String", "<init>", "([C)V"⟩ : MethodName) (head1 (Jvm.Cond.code (⟨"java/lang/String", "<init>", "([C)V"⟩ : MethodName) jdk_42_method_3_code 2 none :: ws) ({ frames := 3, cells := 1, slots := 2, locals := 52 } : Room)) (fun a U => a = #[(.ref u0), (.ref u1)] ∧ Z.Warmed39 U.vm ∧ U.heap = h0) (fun _ _ _ _ _ => True) (fun _ U o U' => ∃ v L, o = .returned v ∧ Q9t Z u0 u1 kC c0 c1 dC cs h0 n0 v U'.heap L ∧ FrameEnd U o U' L ({ frames := 3, cells := 1, slots := 2, locals := 52 } : Room).cells ({ frames := 3, cells := 1, slots := 2, locals := 52 } : Room).slots) := by
  refine MetFree.of_bodySF (plainFor_of_name pn_9) hisR ?_
  intro p e s m args below meth c s₁ Bd hml0 hP hK
  obtain ⟨rfl, hZ, hh⟩ := hP
  have hx := Bd.exec
  have hby := Bd.bytes
  have hml : c.maxLocals = 2 := hml0
  have hown : s.vm.findClass "java/lang/String" = some m.cls := findClass_of_methodNamed Bd.named
  have hnm := (name_of_methodNamed Bd.named Bd.method).1
  have X0 : Stand p l e ({ frames := 3, cells := 1, slots := 2, locals := 52 } : Room) s m #[(.ref u0), (.ref u1)] below meth c s₁ [] 0 0 := Stand.of_body Bd
  have e0 : s₁.heap = h0 := by rw [← hh, Bd.state]; rfl
  have N0 := Fr.nil n0
  have pre0 : ∀ t, Steps p.tables e below (s₁.setTop (mkF m 0 #[.val (.ref u0), .val (.ref u1)] [])) t → Steps p.tables e below (s₁.setTop (entryFrame m #[(.ref u0), (.ref u1)] 2)) t := fun t k => castTop (ef_9t m u0 u1) k
  show Done p e below _ _
  refine Done.of ?_ pre0
  obtain ⟨cl1, Ar1, qq1, S1, M1, H1, G1⟩ := id V0
  obtain ⟨_, _, ⟨T2, L2, k2, n2⟩, -, X2, ⟨Lc2, hQ2, l2, y2, z2⟩, st2⟩ := X0.specialBack hx (y := (⟨"java/lang/String", "<init>", "([CIILjava/lang/Void;)V"⟩ : MethodName)) rfl hown (mvT hZ (hw _ (List.mem_of_getElem? (i := 98) rfl))) (mvT hZ (hw _ (List.mem_of_getElem? (i := 99) rfl))) (mvT hZ (hw _ (List.mem_of_getElem? (i := 100) rfl))) (by decide) (backOf (W := 0) (rm10t l Z a0 hw [] u0 u1 kC c0 c1 dC cs h0 n0 Z0 E0 g0 F_value F_coder V0 hc0 hc1 SCS hcs) hZ (hw _ (List.mem_of_getElem? (i := 100) rfl)) (hw _ (List.mem_of_getElem? (i := 47) rfl)) (by decide) (by decide)) (g := (mkF m 6 #[.val (.ref u0), .val (.ref u1)] [.null, (.int (2 : Int32)), (.int (0 : Int32)), (.ref u1), (.ref u0)])) rfl (by rw [hml]; rfl) (Steps.refl _) (a := u0) (argsL := [(.ref u1), (.int (0 : Int32)), (.int (2 : Int32)), .null]) (rest := []) (lenOf pd_6 rfl) rfl (by show 2 * 0 + _ ≤ _; exact Nat.le_of_eq rfl) (hb hby d9_6) (fun _ _ => ⟨rfl, e0, (by decide : 0 + 1 ≤ _), (by decide : 0 + 2 ≤ _)⟩)
  dsimp only [Pt.U, Pt.locs, Pt.cells, Pt.slots] at X2 l2 y2 z2 st2 hQ2
  rw [l2, y2, z2] at X2
  obtain ⟨rfl, N2q, K2q⟩ := hQ2
  have N2 := Fr.app N0 N2q
  have Z2 : n0 ≤ T2.heap.size := Nat.le_trans Z0 K2q.1
  have Kp2 := (Keep.refl h0 [u0]).trans K2q (fun x hx => Or.inl hx)
  obtain ⟨fs, hr, hrun, hended, hW, hsame⟩ := X2.leave (v := none) (fun _ => rfl)
  refine ⟨_, _, ?_, hrun, hended, _, _, rfl, ?_, ⟨_, rfl⟩, hW, hsame.mono (by decide) (by decide)⟩
  · show Steps p.tables e below (s₁.setTop (mkF m 0 #[.val (.ref u0), .val (.ref u1)] [])) _
    refine XS.aloadN X0.here hx rfl (hb hby d9_0) rfl rfl ?_
    show Steps p.tables e below (s₁.setTop (mkF m 1 #[.val (.ref u0), .val (.ref u1)] [(.ref u0)])) _
    refine XS.aloadN X0.here hx rfl (hb hby d9_1) rfl rfl ?_
    show Steps p.tables e below (s₁.setTop (mkF m 2 #[.val (.ref u0), .val (.ref u1)] [(.ref u1), (.ref u0)])) _
    refine XS.iconst X0.here hx rfl (hb hby d9_2) ?_
    show Steps p.tables e below (s₁.setTop (mkF m 3 #[.val (.ref u0), .val (.ref u1)] [(.int (0 : Int32)), (.ref u1), (.ref u0)])) _
    refine XS.aloadN X0.here hx rfl (hb hby d9_3) rfl rfl ?_
    show Steps p.tables e below (s₁.setTop (mkF m 4 #[.val (.ref u0), .val (.ref u1)] [(.ref u1), (.int (0 : Int32)), (.ref u1), (.ref u0)])) _
    refine X0.arraylength hx (by rw [e0]; exact Ar1.1) (State.isArrayOf_alike hZ.alike Ar1.2.1) (g := (mkF m 4 #[.val (.ref u0), .val (.ref u1)] [(.ref u1), (.int (0 : Int32)), (.ref u1), (.ref u0)])) rfl rfl (hb hby d9_4) _ ?_
    rw [len_of S1 M1]
    show Steps p.tables e below (s₁.setTop (mkF m 5 #[.val (.ref u0), .val (.ref u1)] [(.int (2 : Int32)), (.int (0 : Int32)), (.ref u1), (.ref u0)])) _
    refine XS.aconstNull X0.here hx rfl (hb hby d9_5) ?_
    show Steps p.tables e below (s₁.setTop (mkF m 6 #[.val (.ref u0), .val (.ref u1)] [.null, (.int (2 : Int32)), (.int (0 : Int32)), (.ref u1), (.ref u0)])) _
    refine st2.trans ?_
    show Steps p.tables e below (T2.setTop (mkF m 9 #[.val (.ref u0), .val (.ref u1)] [])) _
    exact X2.returnOut hx Bd.returns (hb hby d9_9) hr
  · show Q9t Z u0 u1 kC c0 c1 dC cs h0 n0 _ T2.heap _
    exact ⟨rfl, N2, Kp2⟩
theorem d10_8 : decode jdk_42_method_149_code 8 = .ok (.aload_n 0, 1) := by decide +kernel
theorem d10_9 : decode jdk_42_method_149_code 9 = .ok (.ldc 7, 2) := by decide +kernel
theorem d10_11 : decode jdk_42_method_149_code 11 = .ok (.getfield 9, 3) := by decide +kernel
theorem d10_14 : decode jdk_42_method_149_code 14 = .ok (.putfield 9, 3) := by decide +kernel
theorem d10_17 : decode jdk_42_method_149_code 17 = .ok (.aload_n 0, 1) := by decide +kernel
theorem d10_18 : decode jdk_42_method_149_code 18 = .ok (.ldc 7, 2) := by decide +kernel
theorem d10_20 : decode jdk_42_method_149_code 20 = .ok (.getfield 15, 3) := by decide +kernel
theorem d10_23 : decode jdk_42_method_149_code 23 = .ok (.putfield 15, 3) := by decide +kernel
theorem d10_26 : decode jdk_42_method_149_code 26 = .ok (.return_, 1) := by decide +kernel
theorem ef_10e (m : MethodId) (u0 : Addr) (u1 : Addr)  : entryFrame m #[(.ref u0), (.ref u1), (.int (0 : Int32)), (.int (0 : Int32)), .null] 6 = mkF m 0 #[.val (.ref u0), .val (.ref u1), .val (.int (0 : Int32)), .val (.int (0 : Int32)), .val .null, .unset] [] := by first | (simp [entryFrame, mkF, argsToLocals, Value.category]; done) | rfl
def Q10e (Z : State) (u0 : Addr) (u1 : Addr) (h0 : Heap) (n0 : Nat) (v : Option Value) (h : Heap) (L : List Loc) : Prop := v = none ∧ Fr n0 L ∧ Keep h0 h [u0]
set_option maxRecDepth 65536 in
set_option maxHeartbeats 40000000 in
theorem rm10e (l : Launch) (Z : State) (a0 : Array Value) (hw : ∀ d ∈ tables_1, d.before a0 Z = true) (ws : List Jvm.Cond) (u0 : Addr) (u1 : Addr) (h0 : Heap) (n0 : Nat) (Z0 : n0 ≤ h0.size) (E0 : Exa Z h0 u0 "java/lang/String") (g0 : n0 ≤ u0) (F_value : Fld Z h0 u0 "java/lang/String" "value" "[B" .null) (F_coder : Fld Z h0 u0 "java/lang/String" "coder" "B" (.int (0 : Int32))) :
    MetFree l (⟨"java/lang/String", "<init>", "([CIILjava/lang/Void;)V"⟩ : MethodName) (head1 (Jvm.Cond.code (⟨"java/lang/String", "<init>", "([CIILjava/lang/Void;)V"⟩ : MethodName) jdk_42_method_149_code 6 none :: ws) ({ frames := 1, cells := 2, slots := 4, locals := 12 } : Room)) (fun a U => a = #[(.ref u0), (.ref u1), (.int (0 : Int32)), (.int (0 : Int32)), .null] ∧ Z.Warmed39 U.vm ∧ U.heap = h0 ∧ own_OC Z [("java/lang/String", 7)] U.vm h0 n0) (fun _ _ _ _ _ => True) (fun _ U o U' => ∃ v L, o = .returned v ∧ Q10e Z u0 u1 h0 n0 v U'.heap L ∧ ReturnedEndW U o U' L ({ frames := 1, cells := 2, slots := 4, locals := 12 } : Room).cells ({ frames := 1, cells := 2, slots := 4, locals := 12 } : Room).slots) := by
  refine MetFree.of_bodySF (plainFor_of_name pn_10) hisR ?_
  intro p e s m args below meth c s₁ Bd hml0 hP hK
  obtain ⟨rfl, hZ, hh, hOC⟩ := hP
  have hx := Bd.exec
  have hby := Bd.bytes
  have hml : c.maxLocals = 6 := hml0
  have hown : s.vm.findClass "java/lang/String" = some m.cls := findClass_of_methodNamed Bd.named
  have hnm := (name_of_methodNamed Bd.named Bd.method).1
  have X0 : Stand p l e ({ frames := 1, cells := 2, slots := 4, locals := 12 } : Room) (s.setVm s.vm) m #[(.ref u0), (.ref u1), (.int (0 : Int32)), (.int (0 : Int32)), .null] below meth c s₁ [] 0 0 := Stand.of_body Bd
  have e0 : s₁.heap = h0 := by rw [← hh, Bd.state]; rfl
  have N0 := Fr.nil n0
  have pre0 : ∀ t, Steps p.tables e below (s₁.setTop (mkF m 0 #[.val (.ref u0), .val (.ref u1), .val (.int (0 : Int32)), .val (.int (0 : Int32)), .val .null, .unset] [])) t → Steps p.tables e below (s₁.setTop (entryFrame m #[(.ref u0), (.ref u1), (.int (0 : Int32)), (.int (0 : Int32)), .null] 6)) t := fun t k => castTop (ef_10e m u0 u1) k
  show Done p e below _ _
  refine Done.of ?_ pre0
  have hS0 : s.Since s.vm 0 := (State.WarmedH.refl s).since 0
  have hEW : EW Z a0 [("java/lang/String", 7)] := EW.cons (hw _ (List.mem_of_getElem? (i := 111) rfl)) (by decide) EW.nil
  have wS : ∀ a ∈ Bundle.stringAtoms, a.before a0 Z = true := fun d hd => hw d ((by decide +kernel : ∀ d ∈ Bundle.stringAtoms, d ∈ tables_1) d hd)
  obtain ⟨T1, X1, e1, st1⟩ := initO X0 hx hZ hown (hw _ (List.mem_of_getElem? (i := 64) rfl)) (hw _ (List.mem_of_getElem? (i := 65) rfl)) (hw _ (List.mem_of_getElem? (i := 66) rfl)) e0 (g := (mkF m 1 #[.val (.ref u0), .val (.ref u1), .val (.int (0 : Int32)), .val (.int (0 : Int32)), .val .null, .unset] [(.ref u0)])) rfl (by rw [hml]; rfl) rfl (hb hby d10_1) (by decide) (W := 0) (by show 2 * 0 + _ ≤ _; exact Nat.le_of_eq rfl) (by decide)
  obtain ⟨a2, T2, h2, k12, bb2, kb2, X2, e2, E2, hS2, hk2, hZ2, hown2, LE2, LC2, LV2, -, -, -, CR2, Lit2, LN2, st2⟩ := ldcCH X1 hx hZ hown (hw _ (List.mem_of_getElem? (i := 111) rfl)) wS e1 hS0 (Nat.zero_le _) hEW (List.mem_cons_self ..) hOC.1 (vs := []) (z := (0 : Int32)) ⟨by decide, rfl⟩ (by decide) (by decide) (g := (mkF m 9 #[.val (.ref u0), .val (.ref u1), .val (.int (0 : Int32)), .val (.int (0 : Int32)), .val .null, .unset] [(.ref u0)])) rfl (hb hby d10_9) (n := 0) (by decide) (by decide) (by decide) (by decide)
  have LU2 : u0 ≠ a2 ∧ u0 ≠ bb2 := LN2 _ (CR2.safe E0.lt (own_OC_safe hOC g0))
  have Z2 : n0 ≤ h2.size := Nat.le_trans Z0 E2.1
  have Kp2 := (Keep.refl h0 [u0]).ext E2
  obtain ⟨T3, X3, e3, st3⟩ := getF X2 hx hZ2 hown2 (host := "") (Or.inl (hw _ (List.mem_of_getElem? (i := 67) rfl))) Via.refl e2 LV2 (g := (mkF m 11 #[.val (.ref u0), .val (.ref u1), .val (.int (0 : Int32)), .val (.int (0 : Int32)), .val .null, .unset] [(.ref a2), (.ref u0)])) rfl rfl (hb hby d10_11)
  obtain ⟨T4, h4, X4, e4, W4, st4⟩ := putF X3 hx hZ2 hown2 (host := "") (Or.inl (hw _ (List.mem_of_getElem? (i := 67) rfl))) Via.refl e3 (F_value.ext E2) (E0.ext E2) (Or.inr ⟨(hw _ (List.mem_of_getElem? (i := 68) rfl)), rfl, hnm⟩) (hw _ (List.mem_of_getElem? (i := 55) rfl)) (ty := (.array .byte)) (by decide) rfl rfl (g := (mkF m 14 #[.val (.ref u0), .val (.ref u1), .val (.int (0 : Int32)), .val (.int (0 : Int32)), .val .null, .unset] [(.ref bb2), (.ref u0)])) rfl rfl (hb hby d10_14)
  have Fw4 := Fld.same W4 (F_value.ext E2)
  have N4 := Fr.snoc X4 N0 g0
  have Z4 : n0 ≤ h4.size := Nat.le_trans Z2 (Nat.le_of_eq W4.size.symm)
  have Kp4 := Kp2.wr W4 (Or.inl (List.mem_of_getElem? (i := 0) rfl))
  obtain ⟨T5, X5, e5, st5⟩ := getF X4 hx hZ2 hown2 (host := "") (Or.inl (hw _ (List.mem_of_getElem? (i := 69) rfl))) Via.refl e4 (LC2.other W4 (Or.inl (Ne.symm LU2.1))) (g := (mkF m 20 #[.val (.ref u0), .val (.ref u1), .val (.int (0 : Int32)), .val (.int (0 : Int32)), .val .null, .unset] [(.ref a2), (.ref u0)])) rfl rfl (hb hby d10_20)
  have cy6 := (F_coder.ext E2)
  have cy7 := (cy6.other W4 (Or.inr (slot_ne (Or.inr (hw _ (List.mem_of_getElem? (i := 70) rfl))) (Or.inr (hw _ (List.mem_of_getElem? (i := 68) rfl))) (by decide) (t := .byte) (t' := (.array .byte)) (by decide) (by decide))))
  have cy8 := (E0.ext E2)
  have cy9 := (cy8.wr W4)
  obtain ⟨T10, h10, X10, e10, W10, st10⟩ := putFN X5 hx hZ2 hown2 (hw _ (List.mem_of_getElem? (i := 69) rfl)) Via.refl e5 cy7 cy9 (Or.inr ⟨(hw _ (List.mem_of_getElem? (i := 70) rfl)), rfl, hnm⟩) (hw _ (List.mem_of_getElem? (i := 55) rfl)) (ty := .byte) (v' := .int ((0 : Int32).toInt8.toInt32)) (by decide) rfl (fits_nar_byte _) (g := (mkF m 23 #[.val (.ref u0), .val (.ref u1), .val (.int (0 : Int32)), .val (.int (0 : Int32)), .val .null, .unset] [(.int (0 : Int32)), (.ref u0)])) rfl rfl (hb hby d10_23)
  have Fw10 := Fld.same W10 cy7
  have N10 := Fr.snoc X10 N4 g0
  have Z10 : n0 ≤ h10.size := Nat.le_trans Z4 (Nat.le_of_eq W10.size.symm)
  have Kp10 := Kp4.wr W10 (Or.inl (List.mem_of_getElem? (i := 0) rfl))
  obtain ⟨fs, hr, hrun, hended, hEnd⟩ := X10.leaveW hS2 (by rw [e10]; exact (Nat.le_trans (Nat.le_trans hk2 (Nat.le_of_eq W4.size.symm)) (Nat.le_of_eq W10.size.symm))) (v := none) (fun _ => rfl)
  refine ⟨_, _, ?_, hrun, hended, _, _, rfl, ?_, hEnd.1, hEnd.2.1, hEnd.2.2.1, hEnd.2.2.2.mono (by decide) (by decide)⟩
  · show Steps p.tables e below (s₁.setTop (mkF m 0 #[.val (.ref u0), .val (.ref u1), .val (.int (0 : Int32)), .val (.int (0 : Int32)), .val .null, .unset] [])) _
    refine XS.aloadN X0.here hx rfl (hb hby d10_0) rfl rfl ?_
    show Steps p.tables e below (s₁.setTop (mkF m 1 #[.val (.ref u0), .val (.ref u1), .val (.int (0 : Int32)), .val (.int (0 : Int32)), .val .null, .unset] [(.ref u0)])) _
    refine st1 _ ?_
    show Steps p.tables e below (T1.setTop (mkF m 4 #[.val (.ref u0), .val (.ref u1), .val (.int (0 : Int32)), .val (.int (0 : Int32)), .val .null, .unset] [])) _
    refine XS.iloadN X1.here hx rfl (hb hby d10_4) rfl ?_
    show Steps p.tables e below (T1.setTop (mkF m 5 #[.val (.ref u0), .val (.ref u1), .val (.int (0 : Int32)), .val (.int (0 : Int32)), .val .null, .unset] [(.int (0 : Int32))])) _
    refine XS.ifNo X1.here hx rfl (hb hby d10_5) rfl ((if0 _ _).trans (teq (rfl : (0 : Int32) = (0 : Int32))).2) ?_
    show Steps p.tables e below (T1.setTop (mkF m 8 #[.val (.ref u0), .val (.ref u1), .val (.int (0 : Int32)), .val (.int (0 : Int32)), .val .null, .unset] [])) _
    refine XS.aloadN X1.here hx rfl (hb hby d10_8) rfl rfl ?_
    show Steps p.tables e below (T1.setTop (mkF m 9 #[.val (.ref u0), .val (.ref u1), .val (.int (0 : Int32)), .val (.int (0 : Int32)), .val .null, .unset] [(.ref u0)])) _
    refine st2 _ ?_
    show Steps p.tables e below (T2.setTop (mkF m 11 #[.val (.ref u0), .val (.ref u1), .val (.int (0 : Int32)), .val (.int (0 : Int32)), .val .null, .unset] [(.ref a2), (.ref u0)])) _
    refine st3 _ ?_
    show Steps p.tables e below (T3.setTop (mkF m 14 #[.val (.ref u0), .val (.ref u1), .val (.int (0 : Int32)), .val (.int (0 : Int32)), .val .null, .unset] [(.ref bb2), (.ref u0)])) _
    refine st4 _ ?_
    show Steps p.tables e below (T4.setTop (mkF m 17 #[.val (.ref u0), .val (.ref u1), .val (.int (0 : Int32)), .val (.int (0 : Int32)), .val .null, .unset] [])) _
    refine XS.aloadN X4.here hx rfl (hb hby d10_17) rfl rfl ?_
    show Steps p.tables e below (T4.setTop (mkF m 18 #[.val (.ref u0), .val (.ref u1), .val (.int (0 : Int32)), .val (.int (0 : Int32)), .val .null, .unset] [(.ref u0)])) _
    refine ldcAgain X4 hx hZ2 hown2 (hw _ (List.mem_of_getElem? (i := 111) rfl)) Lit2 (g := (mkF m 18 #[.val (.ref u0), .val (.ref u1), .val (.int (0 : Int32)), .val (.int (0 : Int32)), .val .null, .unset] [(.ref u0)])) rfl (hb hby d10_18) _ ?_
    show Steps p.tables e below (T4.setTop (mkF m 20 #[.val (.ref u0), .val (.ref u1), .val (.int (0 : Int32)), .val (.int (0 : Int32)), .val .null, .unset] [(.ref a2), (.ref u0)])) _
    refine st5 _ ?_
    show Steps p.tables e below (T5.setTop (mkF m 23 #[.val (.ref u0), .val (.ref u1), .val (.int (0 : Int32)), .val (.int (0 : Int32)), .val .null, .unset] [(.int (0 : Int32)), (.ref u0)])) _
    refine st10 _ ?_
    show Steps p.tables e below (T10.setTop (mkF m 26 #[.val (.ref u0), .val (.ref u1), .val (.int (0 : Int32)), .val (.int (0 : Int32)), .val .null, .unset] [])) _
    exact X10.returnOut hx Bd.returns (hb hby d10_26) hr
  · show Q10e Z u0 u1  h0 n0 _ T10.heap _
    rw [e10]
    exact ⟨rfl, N10, Kp10⟩
theorem ef_9e (m : MethodId) (u0 : Addr) (u1 : Addr)  : entryFrame m #[(.ref u0), (.ref u1)] 2 = mkF m 0 #[.val (.ref u0), .val (.ref u1)] [] := by first | (simp [entryFrame, mkF, argsToLocals, Value.category]; done) | rfl
def Q9e (Z : State) (u0 : Addr) (u1 : Addr) (kC : ClassId) (dC : Value) (h0 : Heap) (n0 : Nat) (v : Option Value) (h : Heap) (L : List Loc) : Prop := v = none ∧ Fr n0 L ∧ Keep h0 h [u0]
set_option maxRecDepth 65536 in
set_option maxHeartbeats 40000000 in
theorem rm9e (l : Launch) (Z : State) (a0 : Array Value) (hw : ∀ d ∈ tables_1, d.before a0 Z = true) (ws : List Jvm.Cond) (u0 : Addr) (u1 : Addr) (kC : ClassId) (dC : Value) (h0 : Heap) (n0 : Nat) (Z0 : n0 ≤ h0.size) (E0 : Exa Z h0 u0 "java/lang/String") (g0 : n0 ≤ u0) (F_value : Fld Z h0 u0 "java/lang/String" "value" "[B" .null) (F_coder : Fld Z h0 u0 "java/lang/String" "coder" "B" (.int (0 : Int32))) (V0 : Arv Z h0 u1 kC .char (0 : Int32) [] dC) :
    MetFree l (⟨"java/lang/String", "<init>", "([C)V"⟩ : MethodName) (head1 (Jvm.Cond.code (⟨"java/lang/String", "<init>", "([C)V"⟩ : MethodName) jdk_42_method_3_code 2 none :: ws) ({ frames := 2, cells := 2, slots := 4, locals := 29 } : Room)) (fun a U => a = #[(.ref u0), (.ref u1)] ∧ Z.Warmed39 U.vm ∧ U.heap = h0 ∧ own_OC Z [("java/lang/String", 7)] U.vm h0 n0) (fun _ _ _ _ _ => True) (fun _ U o U' => ∃ v L, o = .returned v ∧ Q9e Z u0 u1 kC dC h0 n0 v U'.heap L ∧ ReturnedEndW U o U' L ({ frames := 2, cells := 2, slots := 4, locals := 29 } : Room).cells ({ frames := 2, cells := 2, slots := 4, locals := 29 } : Room).slots) := by
  refine MetFree.of_bodySF (plainFor_of_name pn_9) hisR ?_
  intro p e s m args below meth c s₁ Bd hml0 hP hK
  obtain ⟨rfl, hZ, hh, hOC⟩ := hP
  have hx := Bd.exec
  have hby := Bd.bytes
  have hml : c.maxLocals = 2 := hml0
  have hown : s.vm.findClass "java/lang/String" = some m.cls := findClass_of_methodNamed Bd.named
  have hnm := (name_of_methodNamed Bd.named Bd.method).1
  have X0 : Stand p l e ({ frames := 2, cells := 2, slots := 4, locals := 29 } : Room) (s.setVm s.vm) m #[(.ref u0), (.ref u1)] below meth c s₁ [] 0 0 := Stand.of_body Bd
  have e0 : s₁.heap = h0 := by rw [← hh, Bd.state]; rfl
  have N0 := Fr.nil n0
  have pre0 : ∀ t, Steps p.tables e below (s₁.setTop (mkF m 0 #[.val (.ref u0), .val (.ref u1)] [])) t → Steps p.tables e below (s₁.setTop (entryFrame m #[(.ref u0), (.ref u1)] 2)) t := fun t k => castTop (ef_9e m u0 u1) k
  show Done p e below _ _
  refine Done.of ?_ pre0
  have hS0 : s.Since s.vm 0 := (State.WarmedH.refl s).since 0
  have hEW : EW Z a0 [("java/lang/String", 7)] := EW.cons (hw _ (List.mem_of_getElem? (i := 111) rfl)) (by decide) EW.nil
  obtain ⟨cl1, Ar1, qq1, S1, M1, H1, G1⟩ := id V0
  obtain ⟨_, _, ⟨T2, L2, k2, n2⟩, -, Xq2, hSq2, hgq2, ⟨Lc2, hQ2, l2, y2, z2⟩, st2⟩ := X0.specialBackS hx (y := (⟨"java/lang/String", "<init>", "([CIILjava/lang/Void;)V"⟩ : MethodName)) rfl hown (mvT hZ (hw _ (List.mem_of_getElem? (i := 98) rfl))) (mvT hZ (hw _ (List.mem_of_getElem? (i := 99) rfl))) (mvT hZ (hw _ (List.mem_of_getElem? (i := 100) rfl))) (by decide) (own_backW (W := 0) (rm10e l Z a0 hw [] u0 u1 h0 n0 Z0 E0 g0 F_value F_coder) hZ (hw _ (List.mem_of_getElem? (i := 100) rfl)) (hw _ (List.mem_of_getElem? (i := 47) rfl)) (by decide) (by decide) hEW hOC) (g := (mkF m 6 #[.val (.ref u0), .val (.ref u1)] [.null, (.int (0 : Int32)), (.int (0 : Int32)), (.ref u1), (.ref u0)])) rfl (by rw [hml]; rfl) (Steps.refl _) (a := u0) (argsL := [(.ref u1), (.int (0 : Int32)), (.int (0 : Int32)), .null]) (rest := []) (lenOf pd_6 rfl) rfl (by show 2 * 0 + _ ≤ _; exact Nat.le_of_eq rfl) (hb hby d9_6) (fun _ _ => ⟨rfl, e0, (by decide : 0 + 2 ≤ _), (by decide : 0 + 4 ≤ _)⟩)
  dsimp only [Pt.U, Pt.locs, Pt.cells, Pt.slots] at Xq2 hSq2 hgq2 l2 y2 z2 st2 hQ2
  rw [l2, y2, z2] at Xq2
  have X2 : Stand p l e _ (s.setVm T2.vm) m _ below meth c T2 _ _ _ := Xq2
  have hS2 := foldS hS0 (by rw [e0]; exact (Nat.zero_le _)) hSq2 hgq2
  have hZ2 : Z.Warmed39 (s.setVm T2.vm).vm := State.Warmed39.trans (t := (s.setVm s.vm)) hZ hSq2.1
  have hown2 : (s.setVm T2.vm).vm.findClass "java/lang/String" = some m.cls := by show T2.vm.findClass _ = _; rw [hSq2.1.alike.findClass]; exact hown
  obtain ⟨rfl, N2q, K2q⟩ := hQ2
  have N2 := Fr.app N0 N2q
  have Z2 : n0 ≤ T2.heap.size := Nat.le_trans Z0 K2q.1
  have Kp2 := (Keep.refl h0 [u0]).trans K2q (fun x hx => Or.inl hx)
  obtain ⟨fs, hr, hrun, hended, hEnd⟩ := X2.leaveW hS2 (Nat.le_refl _) (v := none) (fun _ => rfl)
  refine ⟨_, _, ?_, hrun, hended, _, _, rfl, ?_, hEnd.1, hEnd.2.1, hEnd.2.2.1, hEnd.2.2.2.mono (by decide) (by decide)⟩
  · show Steps p.tables e below (s₁.setTop (mkF m 0 #[.val (.ref u0), .val (.ref u1)] [])) _
    refine XS.aloadN X0.here hx rfl (hb hby d9_0) rfl rfl ?_
    show Steps p.tables e below (s₁.setTop (mkF m 1 #[.val (.ref u0), .val (.ref u1)] [(.ref u0)])) _
    refine XS.aloadN X0.here hx rfl (hb hby d9_1) rfl rfl ?_
    show Steps p.tables e below (s₁.setTop (mkF m 2 #[.val (.ref u0), .val (.ref u1)] [(.ref u1), (.ref u0)])) _
    refine XS.iconst X0.here hx rfl (hb hby d9_2) ?_
    show Steps p.tables e below (s₁.setTop (mkF m 3 #[.val (.ref u0), .val (.ref u1)] [(.int (0 : Int32)), (.ref u1), (.ref u0)])) _
    refine XS.aloadN X0.here hx rfl (hb hby d9_3) rfl rfl ?_
    show Steps p.tables e below (s₁.setTop (mkF m 4 #[.val (.ref u0), .val (.ref u1)] [(.ref u1), (.int (0 : Int32)), (.ref u1), (.ref u0)])) _
    refine X0.arraylength hx (by rw [e0]; exact Ar1.1) (State.isArrayOf_alike hZ.alike Ar1.2.1) (g := (mkF m 4 #[.val (.ref u0), .val (.ref u1)] [(.ref u1), (.int (0 : Int32)), (.ref u1), (.ref u0)])) rfl rfl (hb hby d9_4) _ ?_
    rw [len_of S1 M1]
    show Steps p.tables e below (s₁.setTop (mkF m 5 #[.val (.ref u0), .val (.ref u1)] [(.int (0 : Int32)), (.int (0 : Int32)), (.ref u1), (.ref u0)])) _
    refine XS.aconstNull X0.here hx rfl (hb hby d9_5) ?_
    show Steps p.tables e below (s₁.setTop (mkF m 6 #[.val (.ref u0), .val (.ref u1)] [.null, (.int (0 : Int32)), (.int (0 : Int32)), (.ref u1), (.ref u0)])) _
    refine st2.trans ?_
    show Steps p.tables e below (T2.setTop (mkF m 9 #[.val (.ref u0), .val (.ref u1)] [])) _
    exact X2.returnOut hx Bd.returns (hb hby d9_9) hr
  · show Q9e Z u0 u1 kC dC h0 n0 _ T2.heap _
    exact ⟨rfl, N2, Kp2⟩
theorem d6_0 : decode prog_62_method_1_code 0 = .ok (.aload_n 0, 1) := by decide +kernel
theorem d6_1 : decode prog_62_method_1_code 1 = .ok (.invokespecial 1, 3) := by decide +kernel
theorem d6_4 : decode prog_62_method_1_code 4 = .ok (.aload_n 0, 1) := by decide +kernel
theorem d6_5 : decode prog_62_method_1_code 5 = .ok (.aload_n 1, 1) := by decide +kernel
theorem d6_6 : decode prog_62_method_1_code 6 = .ok (.putfield 7, 3) := by decide +kernel
theorem d6_9 : decode prog_62_method_1_code 9 = .ok (.aload_n 0, 1) := by decide +kernel
theorem d6_10 : decode prog_62_method_1_code 10 = .ok (.aload_n 2, 1) := by decide +kernel
theorem d6_11 : decode prog_62_method_1_code 11 = .ok (.putfield 13, 3) := by decide +kernel
theorem d6_14 : decode prog_62_method_1_code 14 = .ok (.return_, 1) := by decide +kernel
theorem pn_6 : plainName "com/example/formula_to_count/formulatocount/ProbLogReader$Argument" = true := by first | (simp [plainName, overriddenIn]; done) | decide +kernel
theorem pd_7 : parseMethodDescriptor "()V" = some ⟨[], none⟩ := by decide +kernel
theorem ef_6 (m : MethodId) (u0 : Addr) (u1 : Addr) (u2 : Addr)  : entryFrame m #[(.ref u0), (.ref u1), (.ref u2)] 3 = mkF m 0 #[.val (.ref u0), .val (.ref u1), .val (.ref u2)] [] := by first | (simp [entryFrame, mkF, argsToLocals, Value.category]; done) | rfl
def Q6 (Z : State) (u0 : Addr) (u1 : Addr) (u2 : Addr) (h0 : Heap) (n0 : Nat) (v : Option Value) (h : Heap) (L : List Loc) : Prop := v = none ∧ Fr n0 L ∧ Keep h0 h [u0] ∧ Exa Z h u0 "com/example/formula_to_count/formulatocount/ProbLogReader$Argument" ∧ Fld Z h u0 "com/example/formula_to_count/formulatocount/ProbLogReader$Argument" "kind" "Lcom/example/formula_to_count/formulatocount/Tokens$Kind;" (.ref u1)
set_option maxRecDepth 65536 in
set_option maxHeartbeats 40000000 in
theorem rm6 (l : Launch) (Z : State) (a0 : Array Value) (hw : ∀ d ∈ tables_1, d.before a0 Z = true) (ws : List Jvm.Cond) (u0 : Addr) (u1 : Addr) (u2 : Addr) (h0 : Heap) (n0 : Nat) (Z0 : n0 ≤ h0.size) (E0 : Exa Z h0 u0 "com/example/formula_to_count/formulatocount/ProbLogReader$Argument") (g0 : n0 ≤ u0) (F_kind : Fld Z h0 u0 "com/example/formula_to_count/formulatocount/ProbLogReader$Argument" "kind" "Lcom/example/formula_to_count/formulatocount/Tokens$Kind;" .null) (F_text : Fld Z h0 u0 "com/example/formula_to_count/formulatocount/ProbLogReader$Argument" "text" "Ljava/lang/String;" .null) :
    MetFree l (⟨"com/example/formula_to_count/formulatocount/ProbLogReader$Argument", "<init>", "(Lcom/example/formula_to_count/formulatocount/Tokens$Kind;Ljava/lang/String;)V"⟩ : MethodName) (head1 (Jvm.Cond.code (⟨"com/example/formula_to_count/formulatocount/ProbLogReader$Argument", "<init>", "(Lcom/example/formula_to_count/formulatocount/Tokens$Kind;Ljava/lang/String;)V"⟩ : MethodName) prog_62_method_1_code 3 none :: ws) ({ frames := 2, cells := 0, slots := 0, locals := 24 } : Room)) (fun a U => a = #[(.ref u0), (.ref u1), (.ref u2)] ∧ Z.Warmed39 U.vm ∧ U.heap = h0) (fun _ _ _ _ _ => True) (fun _ U o U' => ∃ v L, o = .returned v ∧ Q6 Z u0 u1 u2 h0 n0 v U'.heap L ∧ FrameEnd U o U' L ({ frames := 2, cells := 0, slots := 0, locals := 24 } : Room).cells ({ frames := 2, cells := 0, slots := 0, locals := 24 } : Room).slots) := by
  refine MetFree.of_bodySF (plainFor_of_name pn_6) hisR ?_
  intro p e s m args below meth c s₁ Bd hml0 hP hK
  obtain ⟨rfl, hZ, hh⟩ := hP
  have hx := Bd.exec
  have hby := Bd.bytes
  have hml : c.maxLocals = 3 := hml0
  have hown : s.vm.findClass "com/example/formula_to_count/formulatocount/ProbLogReader$Argument" = some m.cls := findClass_of_methodNamed Bd.named
  have hnm := (name_of_methodNamed Bd.named Bd.method).1
  have X0 : Stand p l e ({ frames := 2, cells := 0, slots := 0, locals := 24 } : Room) s m #[(.ref u0), (.ref u1), (.ref u2)] below meth c s₁ [] 0 0 := Stand.of_body Bd
  have e0 : s₁.heap = h0 := by rw [← hh, Bd.state]; rfl
  have N0 := Fr.nil n0
  have pre0 : ∀ t, Steps p.tables e below (s₁.setTop (mkF m 0 #[.val (.ref u0), .val (.ref u1), .val (.ref u2)] [])) t → Steps p.tables e below (s₁.setTop (entryFrame m #[(.ref u0), (.ref u1), (.ref u2)] 3)) t := fun t k => castTop (ef_6 m u0 u1 u2) k
  show Done p e below _ _
  refine Done.of ?_ pre0
  obtain ⟨_, _, ⟨T1, L1, k1, n1⟩, -, X1, ⟨Lc1, hQ1, l1, y1, z1⟩, st1⟩ := X0.specialBack hx (y := (⟨"java/lang/Record", "<init>", "()V"⟩ : MethodName)) rfl hown (mvT hZ (hw _ (List.mem_of_getElem? (i := 77) rfl))) (mvT hZ (hw _ (List.mem_of_getElem? (i := 78) rfl))) (mvT hZ (hw _ (List.mem_of_getElem? (i := 81) rfl))) (by decide) (backOf (W := 0) (rm7 l Z a0 hw [] u0 h0 n0 Z0 ) hZ (hw _ (List.mem_of_getElem? (i := 81) rfl)) (hw _ (List.mem_of_getElem? (i := 80) rfl)) (by decide) (by decide)) (g := (mkF m 1 #[.val (.ref u0), .val (.ref u1), .val (.ref u2)] [(.ref u0)])) rfl (by rw [hml]; rfl) (Steps.refl _) (a := u0) (argsL := []) (rest := []) (lenOf pd_7 rfl) rfl (by show 2 * 0 + _ ≤ _; exact Nat.le_of_eq rfl) (hb hby d6_1) (fun _ _ => ⟨rfl, e0, (by decide : 0 + 0 ≤ _), (by decide : 0 + 0 ≤ _)⟩)
  dsimp only [Pt.U, Pt.locs, Pt.cells, Pt.slots] at X1 l1 y1 z1 st1 hQ1
  rw [l1, y1, z1] at X1
  obtain ⟨rfl, N1q, e1⟩ := hQ1
  have N1 := Fr.app N0 N1q
  obtain ⟨T2, h2, X2, e2, W2, st2⟩ := putF X1 hx hZ hown (host := "") (Or.inl (hw _ (List.mem_of_getElem? (i := 83) rfl))) Via.refl e1 F_kind E0 (Or.inr ⟨(hw _ (List.mem_of_getElem? (i := 84) rfl)), rfl, hnm⟩) (hw _ (List.mem_of_getElem? (i := 72) rfl)) (ty := (.object "com/example/formula_to_count/formulatocount/Tokens$Kind")) (by decide) rfl rfl (g := (mkF m 6 #[.val (.ref u0), .val (.ref u1), .val (.ref u2)] [(.ref u1), (.ref u0)])) rfl rfl (hb hby d6_6)
  have Fw2 := Fld.same W2 F_kind
  have N2 := Fr.snoc X2 N1 g0
  have Z2 : n0 ≤ h2.size := Nat.le_trans Z0 (Nat.le_of_eq W2.size.symm)
  have Kp2 := (Keep.refl h0 [u0]).wr W2 (Or.inl (List.mem_of_getElem? (i := 0) rfl))
  obtain ⟨T3, h3, X3, e3, W3, st3⟩ := putF X2 hx hZ hown (host := "") (Or.inl (hw _ (List.mem_of_getElem? (i := 85) rfl))) Via.refl e2 (F_text.other W2 (Or.inr (slot_ne (Or.inr (hw _ (List.mem_of_getElem? (i := 86) rfl))) (Or.inr (hw _ (List.mem_of_getElem? (i := 84) rfl))) (by decide) (t := (.object "java/lang/String")) (t' := (.object "com/example/formula_to_count/formulatocount/Tokens$Kind")) (by decide) (by decide)))) (E0.wr W2) (Or.inr ⟨(hw _ (List.mem_of_getElem? (i := 86) rfl)), rfl, hnm⟩) (hw _ (List.mem_of_getElem? (i := 72) rfl)) (ty := (.object "java/lang/String")) (by decide) rfl rfl (g := (mkF m 11 #[.val (.ref u0), .val (.ref u1), .val (.ref u2)] [(.ref u2), (.ref u0)])) rfl rfl (hb hby d6_11)
  have Fw3 := Fld.same W3 (F_text.other W2 (Or.inr (slot_ne (Or.inr (hw _ (List.mem_of_getElem? (i := 86) rfl))) (Or.inr (hw _ (List.mem_of_getElem? (i := 84) rfl))) (by decide) (t := (.object "java/lang/String")) (t' := (.object "com/example/formula_to_count/formulatocount/Tokens$Kind")) (by decide) (by decide))))
  have N3 := Fr.snoc X3 N2 g0
  have Z3 : n0 ≤ h3.size := Nat.le_trans Z2 (Nat.le_of_eq W3.size.symm)
  have Kp3 := Kp2.wr W3 (Or.inl (List.mem_of_getElem? (i := 0) rfl))
  obtain ⟨fs, hr, hrun, hended, hW, hsame⟩ := X3.leave (v := none) (fun _ => rfl)
  refine ⟨_, _, ?_, hrun, hended, _, _, rfl, ?_, ⟨_, rfl⟩, hW, hsame.mono (by decide) (by decide)⟩
  · show Steps p.tables e below (s₁.setTop (mkF m 0 #[.val (.ref u0), .val (.ref u1), .val (.ref u2)] [])) _
    refine XS.aloadN X0.here hx rfl (hb hby d6_0) rfl rfl ?_
    show Steps p.tables e below (s₁.setTop (mkF m 1 #[.val (.ref u0), .val (.ref u1), .val (.ref u2)] [(.ref u0)])) _
    refine st1.trans ?_
    show Steps p.tables e below (T1.setTop (mkF m 4 #[.val (.ref u0), .val (.ref u1), .val (.ref u2)] [])) _
    refine XS.aloadN X1.here hx rfl (hb hby d6_4) rfl rfl ?_
    show Steps p.tables e below (T1.setTop (mkF m 5 #[.val (.ref u0), .val (.ref u1), .val (.ref u2)] [(.ref u0)])) _
    refine XS.aloadN X1.here hx rfl (hb hby d6_5) rfl rfl ?_
    show Steps p.tables e below (T1.setTop (mkF m 6 #[.val (.ref u0), .val (.ref u1), .val (.ref u2)] [(.ref u1), (.ref u0)])) _
    refine st2 _ ?_
    show Steps p.tables e below (T2.setTop (mkF m 9 #[.val (.ref u0), .val (.ref u1), .val (.ref u2)] [])) _
    refine XS.aloadN X2.here hx rfl (hb hby d6_9) rfl rfl ?_
    show Steps p.tables e below (T2.setTop (mkF m 10 #[.val (.ref u0), .val (.ref u1), .val (.ref u2)] [(.ref u0)])) _
    refine XS.aloadN X2.here hx rfl (hb hby d6_10) rfl rfl ?_
    show Steps p.tables e below (T2.setTop (mkF m 11 #[.val (.ref u0), .val (.ref u1), .val (.ref u2)] [(.ref u2), (.ref u0)])) _
    refine st3 _ ?_
    show Steps p.tables e below (T3.setTop (mkF m 14 #[.val (.ref u0), .val (.ref u1), .val (.ref u2)] [])) _
    exact X3.returnOut hx Bd.returns (hb hby d6_14) hr
  · show Q6 Z u0 u1 u2  h0 n0 _ T3.heap _
    rw [e3]
    have cy4 := (E0.wr W2)
    have cy5 := (cy4.wr W3)
    exact ⟨rfl, N3, Kp3, cy5, (Fw2.other W3 (Or.inr (slot_ne (Or.inr (hw _ (List.mem_of_getElem? (i := 84) rfl))) (Or.inr (hw _ (List.mem_of_getElem? (i := 86) rfl))) (by decide) (t := (.object "com/example/formula_to_count/formulatocount/Tokens$Kind")) (t' := (.object "java/lang/String")) (by decide) (by decide))))⟩
theorem d8_0 : decode prog_62_method_2_code 0 = .ok (.aload_n 0, 1) := by decide +kernel
theorem d8_1 : decode prog_62_method_2_code 1 = .ok (.getfield 7, 3) := by decide +kernel
theorem d8_4 : decode prog_62_method_2_code 4 = .ok (.getstatic 17, 3) := by decide +kernel
theorem d8_7 : decode prog_62_method_2_code 7 = .ok (.if_acmp .ne 7, 3) := by decide +kernel
theorem d8_10 : decode prog_62_method_2_code 10 = .ok (.iconst 1, 1) := by decide +kernel
theorem d8_11 : decode prog_62_method_2_code 11 = .ok (.goto 4, 3) := by decide +kernel
theorem d8_15 : decode prog_62_method_2_code 15 = .ok (.ireturn, 1) := by decide +kernel
theorem pn_8 : plainName "com/example/formula_to_count/formulatocount/ProbLogReader$Argument" = true := by first | (simp [plainName, overriddenIn]; done) | decide +kernel
theorem ef_8s (m : MethodId) (u0 : Addr)  : entryFrame m #[(.ref u0)] 1 = mkF m 0 #[.val (.ref u0)] [] := by first | (simp [entryFrame, mkF, argsToLocals, Value.category]; done) | rfl
def Q8s (Z : State) (u0 : Addr) (kd : Addr) (vr : Addr) (h0 : Heap) (n0 : Nat) (v : Option Value) (h : Heap) (L : List Loc) : Prop := v = some (.int (1 : Int32)) ∧ Fr n0 L ∧ h = h0
set_option maxRecDepth 65536 in
set_option maxHeartbeats 40000000 in
theorem rm8s (l : Launch) (Z : State) (a0 : Array Value) (hw : ∀ d ∈ tables_1, d.before a0 Z = true) (ws : List Jvm.Cond) (u0 : Addr) (kd : Addr) (vr : Addr) (h0 : Heap) (n0 : Nat) (Z0 : n0 ≤ h0.size) (FK : Fld Z h0 u0 "com/example/formula_to_count/formulatocount/ProbLogReader$Argument" "kind" "Lcom/example/formula_to_count/formulatocount/Tokens$Kind;" (.ref kd)) (SV : Sta Z h0 "com/example/formula_to_count/formulatocount/Tokens$Kind" "VARIABLE" "Lcom/example/formula_to_count/formulatocount/Tokens$Kind;" (.ref vr)) (heq : kd = vr) :
    MetFree l (⟨"com/example/formula_to_count/formulatocount/ProbLogReader$Argument", "isVariable", "()Z"⟩ : MethodName) (head1 (Jvm.Cond.code (⟨"com/example/formula_to_count/formulatocount/ProbLogReader$Argument", "isVariable", "()Z"⟩ : MethodName) prog_62_method_2_code 1 (some .boolean) :: ws) ({ frames := 0, cells := 0, slots := 0, locals := 0 } : Room)) (fun a U => a = #[(.ref u0)] ∧ Z.Warmed39 U.vm ∧ U.heap = h0) (fun _ _ _ _ _ => True) (fun _ U o U' => ∃ v L, o = .returned v ∧ Q8s Z u0 kd vr h0 n0 v U'.heap L ∧ FrameEnd U o U' L ({ frames := 0, cells := 0, slots := 0, locals := 0 } : Room).cells ({ frames := 0, cells := 0, slots := 0, locals := 0 } : Room).slots) := by
  refine MetFree.of_bodySF (plainFor_of_name pn_8) hisR ?_
  intro p e s m args below meth c s₁ Bd hml0 hP hK
  obtain ⟨rfl, hZ, hh⟩ := hP
  have hx := Bd.exec
  have hby := Bd.bytes
  have hml : c.maxLocals = 1 := hml0
  have hown : s.vm.findClass "com/example/formula_to_count/formulatocount/ProbLogReader$Argument" = some m.cls := findClass_of_methodNamed Bd.named
  have hnm := (name_of_methodNamed Bd.named Bd.method).1
  have X0 : Stand p l e ({ frames := 0, cells := 0, slots := 0, locals := 0 } : Room) s m #[(.ref u0)] below meth c s₁ [] 0 0 := Stand.of_body Bd
  have e0 : s₁.heap = h0 := by rw [← hh, Bd.state]; rfl
  have N0 := Fr.nil n0
  have pre0 : ∀ t, Steps p.tables e below (s₁.setTop (mkF m 0 #[.val (.ref u0)] [])) t → Steps p.tables e below (s₁.setTop (entryFrame m #[(.ref u0)] 1)) t := fun t k => castTop (ef_8s m u0) k
  show Done p e below _ _
  refine Done.of ?_ pre0
  obtain ⟨T1, X1, e1, st1⟩ := getF X0 hx hZ hown (host := "") (Or.inl (hw _ (List.mem_of_getElem? (i := 83) rfl))) Via.refl e0 FK (g := (mkF m 1 #[.val (.ref u0)] [(.ref u0)])) rfl rfl (hb hby d8_1)
  obtain ⟨T2, X2, e2, st2⟩ := getS2 X1 hx hZ hown (host := "") (Or.inl (hw _ (List.mem_of_getElem? (i := 92) rfl))) Via.refl e1 SV (g := (mkF m 4 #[.val (.ref u0)] [(.ref kd)])) rfl (hb hby d8_4)
  obtain ⟨fs, hr, hrun, hended, hW, hsame⟩ := X2.leave (v := some (.int (1 : Int32))) (fun h => by rw [Bd.returns] at h; cases h)
  refine ⟨_, _, ?_, hrun, hended, _, _, rfl, ?_, ⟨_, rfl⟩, hW, hsame.mono (by decide) (by decide)⟩
  · show Steps p.tables e below (s₁.setTop (mkF m 0 #[.val (.ref u0)] [])) _
    refine XS.aloadN X0.here hx rfl (hb hby d8_0) rfl rfl ?_
    show Steps p.tables e below (s₁.setTop (mkF m 1 #[.val (.ref u0)] [(.ref u0)])) _
    refine st1 _ ?_
    show Steps p.tables e below (T1.setTop (mkF m 4 #[.val (.ref u0)] [(.ref kd)])) _
    refine st2 _ ?_
    show Steps p.tables e below (T2.setTop (mkF m 7 #[.val (.ref u0)] [(.ref vr), (.ref kd)])) _
    refine Jvm.RoadKit.acmp (g := (mkF m 7 #[.val (.ref u0)] [(.ref vr), (.ref kd)])) X2 hx rfl rfl rfl (pc0 := 7) (pc' := 10) (same := true) rfl (hb hby d8_7) rfl (decide_eq_true (congrArg Value.ref heq)) (by decide) (by decide) ?_
    show Steps p.tables e below (T2.setTop (mkF m 10 #[.val (.ref u0)] [])) _
    refine XS.iconst X2.here hx rfl (hb hby d8_10) ?_
    show Steps p.tables e below (T2.setTop (mkF m 11 #[.val (.ref u0)] [(.int (1 : Int32))])) _
    refine XS.goto X2.here hx rfl (pc0 := 11) (pc' := 15) rfl (hb hby d8_11) (by decide) (by decide) ?_
    show Steps p.tables e below (T2.setTop (mkF m 15 #[.val (.ref u0)] [(.int (1 : Int32))])) _
    exact retN X2 hx (t := .boolean) Bd.returns (by simp) (hb hby d8_15) hr
  · show Q8s Z u0 kd vr h0 n0 _ T2.heap _
    rw [e2]
    refine ⟨?_, N0, rfl⟩
    rfl
theorem d8_14 : decode prog_62_method_2_code 14 = .ok (.iconst 0, 1) := by decide +kernel
theorem ef_8d (m : MethodId) (u0 : Addr)  : entryFrame m #[(.ref u0)] 1 = mkF m 0 #[.val (.ref u0)] [] := by first | (simp [entryFrame, mkF, argsToLocals, Value.category]; done) | rfl
def Q8d (Z : State) (u0 : Addr) (kd : Addr) (vr : Addr) (h0 : Heap) (n0 : Nat) (v : Option Value) (h : Heap) (L : List Loc) : Prop := v = some (.int (0 : Int32)) ∧ Fr n0 L ∧ h = h0
set_option maxRecDepth 65536 in
set_option maxHeartbeats 40000000 in
theorem rm8d (l : Launch) (Z : State) (a0 : Array Value) (hw : ∀ d ∈ tables_1, d.before a0 Z = true) (ws : List Jvm.Cond) (u0 : Addr) (kd : Addr) (vr : Addr) (h0 : Heap) (n0 : Nat) (Z0 : n0 ≤ h0.size) (FK : Fld Z h0 u0 "com/example/formula_to_count/formulatocount/ProbLogReader$Argument" "kind" "Lcom/example/formula_to_count/formulatocount/Tokens$Kind;" (.ref kd)) (SV : Sta Z h0 "com/example/formula_to_count/formulatocount/Tokens$Kind" "VARIABLE" "Lcom/example/formula_to_count/formulatocount/Tokens$Kind;" (.ref vr)) (hne : ¬ kd = vr) :
    MetFree l (⟨"com/example/formula_to_count/formulatocount/ProbLogReader$Argument", "isVariable", "()Z"⟩ : MethodName) (head1 (Jvm.Cond.code (⟨"com/example/formula_to_count/formulatocount/ProbLogReader$Argument", "isVariable", "()Z"⟩ : MethodName) prog_62_method_2_code 1 (some .boolean) :: ws) ({ frames := 0, cells := 0, slots := 0, locals := 0 } : Room)) (fun a U => a = #[(.ref u0)] ∧ Z.Warmed39 U.vm ∧ U.heap = h0) (fun _ _ _ _ _ => True) (fun _ U o U' => ∃ v L, o = .returned v ∧ Q8d Z u0 kd vr h0 n0 v U'.heap L ∧ FrameEnd U o U' L ({ frames := 0, cells := 0, slots := 0, locals := 0 } : Room).cells ({ frames := 0, cells := 0, slots := 0, locals := 0 } : Room).slots) := by
  refine MetFree.of_bodySF (plainFor_of_name pn_8) hisR ?_
  intro p e s m args below meth c s₁ Bd hml0 hP hK
  obtain ⟨rfl, hZ, hh⟩ := hP
  have hx := Bd.exec
  have hby := Bd.bytes
  have hml : c.maxLocals = 1 := hml0
  have hown : s.vm.findClass "com/example/formula_to_count/formulatocount/ProbLogReader$Argument" = some m.cls := findClass_of_methodNamed Bd.named
  have hnm := (name_of_methodNamed Bd.named Bd.method).1
  have X0 : Stand p l e ({ frames := 0, cells := 0, slots := 0, locals := 0 } : Room) s m #[(.ref u0)] below meth c s₁ [] 0 0 := Stand.of_body Bd
  have e0 : s₁.heap = h0 := by rw [← hh, Bd.state]; rfl
  have N0 := Fr.nil n0
  have pre0 : ∀ t, Steps p.tables e below (s₁.setTop (mkF m 0 #[.val (.ref u0)] [])) t → Steps p.tables e below (s₁.setTop (entryFrame m #[(.ref u0)] 1)) t := fun t k => castTop (ef_8d m u0) k
  show Done p e below _ _
  refine Done.of ?_ pre0
  obtain ⟨T1, X1, e1, st1⟩ := getF X0 hx hZ hown (host := "") (Or.inl (hw _ (List.mem_of_getElem? (i := 83) rfl))) Via.refl e0 FK (g := (mkF m 1 #[.val (.ref u0)] [(.ref u0)])) rfl rfl (hb hby d8_1)
  obtain ⟨T2, X2, e2, st2⟩ := getS2 X1 hx hZ hown (host := "") (Or.inl (hw _ (List.mem_of_getElem? (i := 92) rfl))) Via.refl e1 SV (g := (mkF m 4 #[.val (.ref u0)] [(.ref kd)])) rfl (hb hby d8_4)
  obtain ⟨fs, hr, hrun, hended, hW, hsame⟩ := X2.leave (v := some (.int (0 : Int32))) (fun h => by rw [Bd.returns] at h; cases h)
  refine ⟨_, _, ?_, hrun, hended, _, _, rfl, ?_, ⟨_, rfl⟩, hW, hsame.mono (by decide) (by decide)⟩
  · show Steps p.tables e below (s₁.setTop (mkF m 0 #[.val (.ref u0)] [])) _
    refine XS.aloadN X0.here hx rfl (hb hby d8_0) rfl rfl ?_
    show Steps p.tables e below (s₁.setTop (mkF m 1 #[.val (.ref u0)] [(.ref u0)])) _
    refine st1 _ ?_
    show Steps p.tables e below (T1.setTop (mkF m 4 #[.val (.ref u0)] [(.ref kd)])) _
    refine st2 _ ?_
    show Steps p.tables e below (T2.setTop (mkF m 7 #[.val (.ref u0)] [(.ref vr), (.ref kd)])) _
    refine Jvm.RoadKit.acmp (g := (mkF m 7 #[.val (.ref u0)] [(.ref vr), (.ref kd)])) X2 hx rfl rfl rfl (pc0 := 7) (pc' := 14) (same := false) rfl (hb hby d8_7) rfl (decide_eq_false fun q => hne (Value.ref.inj q)) (by decide) (by decide) ?_
    show Steps p.tables e below (T2.setTop (mkF m 14 #[.val (.ref u0)] [])) _
    refine XS.iconst X2.here hx rfl (hb hby d8_14) ?_
    show Steps p.tables e below (T2.setTop (mkF m 15 #[.val (.ref u0)] [(.int (0 : Int32))])) _
    exact retN X2 hx (t := .boolean) Bd.returns (by simp) (hb hby d8_15) hr
  · show Q8d Z u0 kd vr h0 n0 _ T2.heap _
    rw [e2]
    refine ⟨?_, N0, rfl⟩
    rfl
theorem pn_0 : plainName "com/example/formula_to_count/formulatocount/ArgumentIsVariablePinLaw" = true := by first | (simp [plainName, overriddenIn]; done) | decide +kernel
theorem pd_8 : parseMethodDescriptor "([C)V" = some ⟨[(.array .char)], none⟩ := by decide +kernel
theorem pd_9 : parseMethodDescriptor "(Lcom/example/formula_to_count/formulatocount/Tokens$Kind;Ljava/lang/String;)V" = some ⟨[(.object "com/example/formula_to_count/formulatocount/Tokens$Kind"), (.object "java/lang/String")], none⟩ := by decide +kernel
theorem pd_10 : parseMethodDescriptor "()Z" = some ⟨[], some .boolean⟩ := by decide +kernel
theorem pd_11 : parseMethodDescriptor "(C)Ljava/lang/String;" = some ⟨[.char], some (.object "java/lang/String")⟩ := by decide +kernel
theorem ef_0 (m : MethodId) (p0 : Int32) (p1 : Int32) (p2 : Int32) (p3 : Int32)  : entryFrame m #[(.int p0), (.int p1), (.int p2), (.int p3)] maxLocals = mkF m 0 #[.val (.int p0), .val (.int p1), .val (.int p2), .val (.int p3), .unset, .unset, .unset, .unset, .unset, .unset, .unset, .unset] [] := by first | (simp [entryFrame, mkF, argsToLocals, Value.category, maxLocals]; done) | rfl
def Q0 (Z : State) (p0 : Int32) (p1 : Int32) (p2 : Int32) (p3 : Int32) (A : Nat → Addr) (cs : Int32) (h0 : Heap) (n0 : Nat) (v : Option Value) (h : Heap) (L : List Loc) : Prop := v = some (.int 1) ∧ Fr n0 L
set_option maxRecDepth 65536 in
set_option maxHeartbeats 40000000 in
theorem rm0 (l : Launch) (Z : State) (a0 : Array Value) (hw : ∀ d ∈ tables_1, d.before a0 Z = true) (ws : List Jvm.Cond) (p0 : Int32) (p1 : Int32) (p2 : Int32) (p3 : Int32) (A : Nat → Addr) (cs : Int32) (h0 : Heap) (n0 : Nat) (Z0 : n0 ≤ h0.size) (Sk0 : Sta Z Z.heap "com/example/formula_to_count/formulatocount/Tokens$Kind" "NAME" "Lcom/example/formula_to_count/formulatocount/Tokens$Kind;" (.ref (A 0))) (Sk1 : Sta Z Z.heap "com/example/formula_to_count/formulatocount/Tokens$Kind" "VARIABLE" "Lcom/example/formula_to_count/formulatocount/Tokens$Kind;" (.ref (A 1))) (Sk2 : Sta Z Z.heap "com/example/formula_to_count/formulatocount/Tokens$Kind" "NUMBER" "Lcom/example/formula_to_count/formulatocount/Tokens$Kind;" (.ref (A 2))) (Sk3 : Sta Z Z.heap "com/example/formula_to_count/formulatocount/Tokens$Kind" "LEFT_PAREN" "Lcom/example/formula_to_count/formulatocount/Tokens$Kind;" (.ref (A 3))) (Sk4 : Sta Z Z.heap "com/example/formula_to_count/formulatocount/Tokens$Kind" "RIGHT_PAREN" "Lcom/example/formula_to_count/formulatocount/Tokens$Kind;" (.ref (A 4))) (Sk5 : Sta Z Z.heap "com/example/formula_to_count/formulatocount/Tokens$Kind" "LEFT_BRACE" "Lcom/example/formula_to_count/formulatocount/Tokens$Kind;" (.ref (A 5))) (Sk6 : Sta Z Z.heap "com/example/formula_to_count/formulatocount/Tokens$Kind" "RIGHT_BRACE" "Lcom/example/formula_to_count/formulatocount/Tokens$Kind;" (.ref (A 6))) (Sk7 : Sta Z Z.heap "com/example/formula_to_count/formulatocount/Tokens$Kind" "COMMA" "Lcom/example/formula_to_count/formulatocount/Tokens$Kind;" (.ref (A 7))) (Sk8 : Sta Z Z.heap "com/example/formula_to_count/formulatocount/Tokens$Kind" "COLON" "Lcom/example/formula_to_count/formulatocount/Tokens$Kind;" (.ref (A 8))) (Sk9 : Sta Z Z.heap "com/example/formula_to_count/formulatocount/Tokens$Kind" "PERIOD" "Lcom/example/formula_to_count/formulatocount/Tokens$Kind;" (.ref (A 9))) (Sk10 : Sta Z Z.heap "com/example/formula_to_count/formulatocount/Tokens$Kind" "NOT" "Lcom/example/formula_to_count/formulatocount/Tokens$Kind;" (.ref (A 10))) (Sk11 : Sta Z Z.heap "com/example/formula_to_count/formulatocount/Tokens$Kind" "AND" "Lcom/example/formula_to_count/formulatocount/Tokens$Kind;" (.ref (A 11))) (Sk12 : Sta Z Z.heap "com/example/formula_to_count/formulatocount/Tokens$Kind" "OR" "Lcom/example/formula_to_count/formulatocount/Tokens$Kind;" (.ref (A 12))) (Sk13 : Sta Z Z.heap "com/example/formula_to_count/formulatocount/Tokens$Kind" "IMPLIES" "Lcom/example/formula_to_count/formulatocount/Tokens$Kind;" (.ref (A 13))) (Sk14 : Sta Z Z.heap "com/example/formula_to_count/formulatocount/Tokens$Kind" "IFF" "Lcom/example/formula_to_count/formulatocount/Tokens$Kind;" (.ref (A 14))) (Sk15 : Sta Z Z.heap "com/example/formula_to_count/formulatocount/Tokens$Kind" "EQUALS" "Lcom/example/formula_to_count/formulatocount/Tokens$Kind;" (.ref (A 15))) (Sk16 : Sta Z Z.heap "com/example/formula_to_count/formulatocount/Tokens$Kind" "NOT_EQUALS" "Lcom/example/formula_to_count/formulatocount/Tokens$Kind;" (.ref (A 16))) (Sk17 : Sta Z Z.heap "com/example/formula_to_count/formulatocount/Tokens$Kind" "IF" "Lcom/example/formula_to_count/formulatocount/Tokens$Kind;" (.ref (A 17))) (Sk18 : Sta Z Z.heap "com/example/formula_to_count/formulatocount/Tokens$Kind" "PROBABILITY" "Lcom/example/formula_to_count/formulatocount/Tokens$Kind;" (.ref (A 18))) (Sk19 : Sta Z Z.heap "com/example/formula_to_count/formulatocount/Tokens$Kind" "END" "Lcom/example/formula_to_count/formulatocount/Tokens$Kind;" (.ref (A 19))) (EA : ∀ i, i < 20 → Exa Z h0 (A i) "com/example/formula_to_count/formulatocount/Tokens$Kind") (hneA : ∀ i, i < 20 → i ≠ 1 → ¬ A i = A 1) (OZ : Old Z n0 h0) (SCS : Sta Z Z.heap "java/lang/String" "COMPACT_STRINGS" "Z" (.int cs)) (hcs : ¬ cs = (0 : Int32)) :
    MetFree l x (head1 (Jvm.Cond.code x code maxLocals ret :: ws) room_1) (fun a U => a = #[(.int p0), (.int p1), (.int p2), (.int p3)] ∧ Z.Warmed39 U.vm ∧ U.heap = h0 ∧ own_OC Z [("java/lang/String", 7)] U.vm h0 n0) (fun _ _ _ _ _ => True) (fun _ U o U' => ∃ v L, o = .returned v ∧ Q0 Z p0 p1 p2 p3 A cs h0 n0 v U'.heap L ∧ ReturnedEndW U o U' L room_1.cells room_1.slots) := by
  refine MetFree.of_bodySF (plainFor_of_name pn_0) hisR ?_
  intro p e s m args below meth c s₁ Bd hml0 hP hK
  obtain ⟨rfl, hZ, hh, hOC⟩ := hP
  have hx := Bd.exec
  have hby := Bd.bytes
  have hml : c.maxLocals = 12 := hml0
  have hown : s.vm.findClass "com/example/formula_to_count/formulatocount/ArgumentIsVariablePinLaw" = some m.cls := findClass_of_methodNamed Bd.named
  have hnm := (name_of_methodNamed Bd.named Bd.method).1
  have X0 : Stand p l e room_1 (s.setVm s.vm) m #[(.int p0), (.int p1), (.int p2), (.int p3)] below meth c s₁ [] 0 0 := Stand.of_body Bd
  have e0 : s₁.heap = h0 := by rw [← hh, Bd.state]; rfl
  have N0 := Fr.nil n0
  have pre0 : ∀ t, Steps p.tables e below (s₁.setTop (mkF m 0 #[.val (.int p0), .val (.int p1), .val (.int p2), .val (.int p3), .unset, .unset, .unset, .unset, .unset, .unset, .unset, .unset] [])) t → Steps p.tables e below (s₁.setTop (entryFrame m #[(.int p0), (.int p1), (.int p2), (.int p3)] maxLocals)) t := fun t k => castTop (ef_0 m p0 p1 p2 p3) k
  show Done p e below _ _
  refine Done.of ?_ pre0
  have hS0 : s.Since s.vm 0 := (State.WarmedH.refl s).since 0
  have hEW : EW Z a0 [("java/lang/String", 7)] := EW.cons (hw _ (List.mem_of_getElem? (i := 111) rfl)) (by decide) EW.nil
  obtain ⟨T1, h1, k1, X1, e1, E1, A1, O1, st1⟩ := newR X0 hx hZ hown (hw _ (List.mem_of_getElem? (i := 0) rfl)) (hw _ (List.mem_of_getElem? (i := 1) rfl)) e0 (g := (mkF m 2 #[.val (.int p0), .val (.int p1), .val (.int p2), .val (.int p3), .unset, .unset, .unset, .unset, .unset, .unset, .unset, .unset] [(.int (20 : Int32))])) rfl (hb hby at_2) rfl (by decide) (cap := 20) (by decide) (by decide) (by decide) (by decide)
  obtain ⟨b1, g1⟩ : ∃ z, z = h0.size := ⟨_, rfl⟩
  rw [← g1] at A1 st1
  have gnb1 : n0 ≤ b1 := Nat.le_trans Z0 (Nat.le_of_eq g1.symm)
  have Z1 : n0 ≤ h1.size := Nat.le_trans Z0 E1.1
  have ne_1_1 : (A 0) ≠ b1 := Nat.ne_of_lt (Nat.lt_of_lt_of_le (EA 0 (by decide)).lt (Nat.le_of_eq g1.symm))
  have ne_1_2 : (A 1) ≠ b1 := Nat.ne_of_lt (Nat.lt_of_lt_of_le (EA 1 (by decide)).lt (Nat.le_of_eq g1.symm))
  have ne_1_3 : (A 2) ≠ b1 := Nat.ne_of_lt (Nat.lt_of_lt_of_le (EA 2 (by decide)).lt (Nat.le_of_eq g1.symm))
  have ne_1_4 : (A 3) ≠ b1 := Nat.ne_of_lt (Nat.lt_of_lt_of_le (EA 3 (by decide)).lt (Nat.le_of_eq g1.symm))
  have ne_1_5 : (A 4) ≠ b1 := Nat.ne_of_lt (Nat.lt_of_lt_of_le (EA 4 (by decide)).lt (Nat.le_of_eq g1.symm))
  have ne_1_6 : (A 5) ≠ b1 := Nat.ne_of_lt (Nat.lt_of_lt_of_le (EA 5 (by decide)).lt (Nat.le_of_eq g1.symm))
  have ne_1_7 : (A 6) ≠ b1 := Nat.ne_of_lt (Nat.lt_of_lt_of_le (EA 6 (by decide)).lt (Nat.le_of_eq g1.symm))
  have ne_1_8 : (A 7) ≠ b1 := Nat.ne_of_lt (Nat.lt_of_lt_of_le (EA 7 (by decide)).lt (Nat.le_of_eq g1.symm))
  have ne_1_9 : (A 8) ≠ b1 := Nat.ne_of_lt (Nat.lt_of_lt_of_le (EA 8 (by decide)).lt (Nat.le_of_eq g1.symm))
  have ne_1_10 : (A 9) ≠ b1 := Nat.ne_of_lt (Nat.lt_of_lt_of_le (EA 9 (by decide)).lt (Nat.le_of_eq g1.symm))
  have ne_1_11 : (A 10) ≠ b1 := Nat.ne_of_lt (Nat.lt_of_lt_of_le (EA 10 (by decide)).lt (Nat.le_of_eq g1.symm))
  have ne_1_12 : (A 11) ≠ b1 := Nat.ne_of_lt (Nat.lt_of_lt_of_le (EA 11 (by decide)).lt (Nat.le_of_eq g1.symm))
  have ne_1_13 : (A 12) ≠ b1 := Nat.ne_of_lt (Nat.lt_of_lt_of_le (EA 12 (by decide)).lt (Nat.le_of_eq g1.symm))
  have ne_1_14 : (A 13) ≠ b1 := Nat.ne_of_lt (Nat.lt_of_lt_of_le (EA 13 (by decide)).lt (Nat.le_of_eq g1.symm))
  have ne_1_15 : (A 14) ≠ b1 := Nat.ne_of_lt (Nat.lt_of_lt_of_le (EA 14 (by decide)).lt (Nat.le_of_eq g1.symm))
  have ne_1_16 : (A 15) ≠ b1 := Nat.ne_of_lt (Nat.lt_of_lt_of_le (EA 15 (by decide)).lt (Nat.le_of_eq g1.symm))
  have ne_1_17 : (A 16) ≠ b1 := Nat.ne_of_lt (Nat.lt_of_lt_of_le (EA 16 (by decide)).lt (Nat.le_of_eq g1.symm))
  have ne_1_18 : (A 17) ≠ b1 := Nat.ne_of_lt (Nat.lt_of_lt_of_le (EA 17 (by decide)).lt (Nat.le_of_eq g1.symm))
  have ne_1_19 : (A 18) ≠ b1 := Nat.ne_of_lt (Nat.lt_of_lt_of_le (EA 18 (by decide)).lt (Nat.le_of_eq g1.symm))
  have ne_1_20 : (A 19) ≠ b1 := Nat.ne_of_lt (Nat.lt_of_lt_of_le (EA 19 (by decide)).lt (Nat.le_of_eq g1.symm))
  have V1 : Arv Z h1 b1 k1 (.object "com/example/formula_to_count/formulatocount/Tokens$Kind") (20 : Int32) [.null, .null, .null, .null, .null, .null, .null, .null, .null, .null, .null, .null, .null, .null, .null, .null, .null, .null, .null, .null] .null := (Arv.new A1 (by decide)).pad (pad_rep [] .null 20)
  obtain ⟨T2, X2, e2, st2⟩ := getS2 X1 hx hZ hown (host := "") (Or.inl (hw _ (List.mem_of_getElem? (i := 2) rfl))) Via.refl e1 (Sk0.ext (OZ.ext E1).2) (g := (mkF m 7 #[.val (.int p0), .val (.int p1), .val (.int p2), .val (.int p3), .unset, .unset, .unset, .unset, .unset, .unset, .unset, .unset] [(.int (0 : Int32)), (.ref b1), (.ref b1)])) rfl (hb hby at_7)
  obtain ⟨cl3, Ar3, qq3, S3, M3, H3, G3⟩ := id V1
  have hin3 : ¬ ((0 : Int32) < 0 ∨ cl3.slots.size ≤ ((0 : Int32)).toNatClampNeg) := inb_of S3 ⟨by decide, by decide⟩
  obtain ⟨T4, h4, X4, e4, W4, st4⟩ := stR X2 hx hZ e2 Ar3 (j := (0 : Int32)) hin3 rfl (Sto.ofV Ar3 qq3 O1 (Ins.self ((EA 0 (by decide)).ext E1))) (g := (mkF m 10 #[.val (.int p0), .val (.int p1), .val (.int p2), .val (.int p3), .unset, .unset, .unset, .unset, .unset, .unset, .unset, .unset] [(.ref (A 0)), (.int (0 : Int32)), (.ref b1), (.ref b1)])) rfl rfl (hb hby at_10)
  have V4 : Arv Z h4 b1 k1 (.object "com/example/formula_to_count/formulatocount/Tokens$Kind") (20 : Int32) [(.ref (A 0)), .null, .null, .null, .null, .null, .null, .null, .null, .null, .null, .null, .null, .null, .null, .null, .null, .null, .null, .null] _ := Arv.set Ar3 qq3 S3 M3 H3 G3 rfl W4 0 rfl (Nat.le_of_ble_eq_true rfl)
  have N4 := Fr.snoc X4 N0 gnb1
  have Z4 : n0 ≤ h4.size := Nat.le_trans Z1 (Nat.le_of_eq W4.size.symm)
  have cy5 := (OZ.ext E1)
  have cy6 := (cy5.wr W4 gnb1)
  obtain ⟨T7, X7, e7, st7⟩ := getS2 X4 hx hZ hown (host := "") (Or.inl (hw _ (List.mem_of_getElem? (i := 6) rfl))) Via.refl e4 (Sk1.ext cy6.2) (g := (mkF m 13 #[.val (.int p0), .val (.int p1), .val (.int p2), .val (.int p3), .unset, .unset, .unset, .unset, .unset, .unset, .unset, .unset] [(.int (1 : Int32)), (.ref b1), (.ref b1)])) rfl (hb hby at_13)
  obtain ⟨cl8, Ar8, qq8, S8, M8, H8, G8⟩ := id V4
  have hin8 : ¬ ((1 : Int32) < 0 ∨ cl8.slots.size ≤ ((1 : Int32)).toNatClampNeg) := inb_of S8 ⟨by decide, by decide⟩
  have cy9 := ((EA 1 (by decide)).ext E1)
  have cy10 := (cy9.wr W4)
  obtain ⟨T11, h11, X11, e11, W11, st11⟩ := stR X7 hx hZ e7 Ar8 (j := (1 : Int32)) hin8 rfl (Sto.ofV Ar8 qq8 O1 (Ins.self cy10)) (g := (mkF m 16 #[.val (.int p0), .val (.int p1), .val (.int p2), .val (.int p3), .unset, .unset, .unset, .unset, .unset, .unset, .unset, .unset] [(.ref (A 1)), (.int (1 : Int32)), (.ref b1), (.ref b1)])) rfl rfl (hb hby at_16)
  have V11 : Arv Z h11 b1 k1 (.object "com/example/formula_to_count/formulatocount/Tokens$Kind") (20 : Int32) [(.ref (A 0)), (.ref (A 1)), .null, .null, .null, .null, .null, .null, .null, .null, .null, .null, .null, .null, .null, .null, .null, .null, .null, .null] _ := Arv.set Ar8 qq8 S8 M8 H8 G8 rfl W11 1 rfl (Nat.le_of_ble_eq_true rfl)
  have N11 := Fr.snoc X11 N4 gnb1
  have Z11 : n0 ≤ h11.size := Nat.le_trans Z4 (Nat.le_of_eq W11.size.symm)
  obtain ⟨T12, X12, e12, st12⟩ := getS2 X11 hx hZ hown (host := "") (Or.inl (hw _ (List.mem_of_getElem? (i := 8) rfl))) Via.refl e11 (Sk2.ext (cy6.wr W11 gnb1).2) (g := (mkF m 19 #[.val (.int p0), .val (.int p1), .val (.int p2), .val (.int p3), .unset, .unset, .unset, .unset, .unset, .unset, .unset, .unset] [(.int (2 : Int32)), (.ref b1), (.ref b1)])) rfl (hb hby at_19)
  obtain ⟨cl13, Ar13, qq13, S13, M13, H13, G13⟩ := id V11
  have hin13 : ¬ ((2 : Int32) < 0 ∨ cl13.slots.size ≤ ((2 : Int32)).toNatClampNeg) := inb_of S13 ⟨by decide, by decide⟩
  have cy14 := ((EA 2 (by decide)).ext E1)
  have cy15 := (cy14.wr W4)
  have cy16 := (cy15.wr W11)
  obtain ⟨T17, h17, X17, e17, W17, st17⟩ := stR X12 hx hZ e12 Ar13 (j := (2 : Int32)) hin13 rfl (Sto.ofV Ar13 qq13 O1 (Ins.self cy16)) (g := (mkF m 22 #[.val (.int p0), .val (.int p1), .val (.int p2), .val (.int p3), .unset, .unset, .unset, .unset, .unset, .unset, .unset, .unset] [(.ref (A 2)), (.int (2 : Int32)), (.ref b1), (.ref b1)])) rfl rfl (hb hby at_22)
  have V17 : Arv Z h17 b1 k1 (.object "com/example/formula_to_count/formulatocount/Tokens$Kind") (20 : Int32) [(.ref (A 0)), (.ref (A 1)), (.ref (A 2)), .null, .null, .null, .null, .null, .null, .null, .null, .null, .null, .null, .null, .null, .null, .null, .null, .null] _ := Arv.set Ar13 qq13 S13 M13 H13 G13 rfl W17 2 rfl (Nat.le_of_ble_eq_true rfl)
  have N17 := Fr.snoc X17 N11 gnb1
  have Z17 : n0 ≤ h17.size := Nat.le_trans Z11 (Nat.le_of_eq W17.size.symm)
  have cy18 := (cy6.wr W11 gnb1)
  have cy19 := (cy18.wr W17 gnb1)
  obtain ⟨T20, X20, e20, st20⟩ := getS2 X17 hx hZ hown (host := "") (Or.inl (hw _ (List.mem_of_getElem? (i := 10) rfl))) Via.refl e17 (Sk3.ext cy19.2) (g := (mkF m 25 #[.val (.int p0), .val (.int p1), .val (.int p2), .val (.int p3), .unset, .unset, .unset, .unset, .unset, .unset, .unset, .unset] [(.int (3 : Int32)), (.ref b1), (.ref b1)])) rfl (hb hby at_25)
  obtain ⟨cl21, Ar21, qq21, S21, M21, H21, G21⟩ := id V17
  have hin21 : ¬ ((3 : Int32) < 0 ∨ cl21.slots.size ≤ ((3 : Int32)).toNatClampNeg) := inb_of S21 ⟨by decide, by decide⟩
  have cy22 := ((EA 3 (by decide)).ext E1)
  have cy23 := (cy22.wr W4)
  have cy24 := (cy23.wr W11)
  have cy25 := (cy24.wr W17)
  obtain ⟨T26, h26, X26, e26, W26, st26⟩ := stR X20 hx hZ e20 Ar21 (j := (3 : Int32)) hin21 rfl (Sto.ofV Ar21 qq21 O1 (Ins.self cy25)) (g := (mkF m 28 #[.val (.int p0), .val (.int p1), .val (.int p2), .val (.int p3), .unset, .unset, .unset, .unset, .unset, .unset, .unset, .unset] [(.ref (A 3)), (.int (3 : Int32)), (.ref b1), (.ref b1)])) rfl rfl (hb hby at_28)
  have V26 : Arv Z h26 b1 k1 (.object "com/example/formula_to_count/formulatocount/Tokens$Kind") (20 : Int32) [(.ref (A 0)), (.ref (A 1)), (.ref (A 2)), (.ref (A 3)), .null, .null, .null, .null, .null, .null, .null, .null, .null, .null, .null, .null, .null, .null, .null, .null] _ := Arv.set Ar21 qq21 S21 M21 H21 G21 rfl W26 3 rfl (Nat.le_of_ble_eq_true rfl)
  have N26 := Fr.snoc X26 N17 gnb1
  have Z26 : n0 ≤ h26.size := Nat.le_trans Z17 (Nat.le_of_eq W26.size.symm)
  obtain ⟨T27, X27, e27, st27⟩ := getS2 X26 hx hZ hown (host := "") (Or.inl (hw _ (List.mem_of_getElem? (i := 12) rfl))) Via.refl e26 (Sk4.ext (cy19.wr W26 gnb1).2) (g := (mkF m 31 #[.val (.int p0), .val (.int p1), .val (.int p2), .val (.int p3), .unset, .unset, .unset, .unset, .unset, .unset, .unset, .unset] [(.int (4 : Int32)), (.ref b1), (.ref b1)])) rfl (hb hby at_31)
  obtain ⟨cl28, Ar28, qq28, S28, M28, H28, G28⟩ := id V26
  have hin28 : ¬ ((4 : Int32) < 0 ∨ cl28.slots.size ≤ ((4 : Int32)).toNatClampNeg) := inb_of S28 ⟨by decide, by decide⟩
  have cy29 := ((EA 4 (by decide)).ext E1)
  have cy30 := (cy29.wr W4)
  have cy31 := (cy30.wr W11)
  have cy32 := (cy31.wr W17)
  have cy33 := (cy32.wr W26)
  obtain ⟨T34, h34, X34, e34, W34, st34⟩ := stR X27 hx hZ e27 Ar28 (j := (4 : Int32)) hin28 rfl (Sto.ofV Ar28 qq28 O1 (Ins.self cy33)) (g := (mkF m 34 #[.val (.int p0), .val (.int p1), .val (.int p2), .val (.int p3), .unset, .unset, .unset, .unset, .unset, .unset, .unset, .unset] [(.ref (A 4)), (.int (4 : Int32)), (.ref b1), (.ref b1)])) rfl rfl (hb hby at_34)
  have V34 : Arv Z h34 b1 k1 (.object "com/example/formula_to_count/formulatocount/Tokens$Kind") (20 : Int32) [(.ref (A 0)), (.ref (A 1)), (.ref (A 2)), (.ref (A 3)), (.ref (A 4)), .null, .null, .null, .null, .null, .null, .null, .null, .null, .null, .null, .null, .null, .null, .null] _ := Arv.set Ar28 qq28 S28 M28 H28 G28 rfl W34 4 rfl (Nat.le_of_ble_eq_true rfl)
  have N34 := Fr.snoc X34 N26 gnb1
  have Z34 : n0 ≤ h34.size := Nat.le_trans Z26 (Nat.le_of_eq W34.size.symm)
  have cy35 := (cy19.wr W26 gnb1)
  have cy36 := (cy35.wr W34 gnb1)
  obtain ⟨T37, X37, e37, st37⟩ := getS2 X34 hx hZ hown (host := "") (Or.inl (hw _ (List.mem_of_getElem? (i := 14) rfl))) Via.refl e34 (Sk5.ext cy36.2) (g := (mkF m 37 #[.val (.int p0), .val (.int p1), .val (.int p2), .val (.int p3), .unset, .unset, .unset, .unset, .unset, .unset, .unset, .unset] [(.int (5 : Int32)), (.ref b1), (.ref b1)])) rfl (hb hby at_37)
  obtain ⟨cl38, Ar38, qq38, S38, M38, H38, G38⟩ := id V34
  have hin38 : ¬ ((5 : Int32) < 0 ∨ cl38.slots.size ≤ ((5 : Int32)).toNatClampNeg) := inb_of S38 ⟨by decide, by decide⟩
  have cy39 := ((EA 5 (by decide)).ext E1)
  have cy40 := (cy39.wr W4)
  have cy41 := (cy40.wr W11)
  have cy42 := (cy41.wr W17)
  have cy43 := (cy42.wr W26)
  have cy44 := (cy43.wr W34)
  obtain ⟨T45, h45, X45, e45, W45, st45⟩ := stR X37 hx hZ e37 Ar38 (j := (5 : Int32)) hin38 rfl (Sto.ofV Ar38 qq38 O1 (Ins.self cy44)) (g := (mkF m 40 #[.val (.int p0), .val (.int p1), .val (.int p2), .val (.int p3), .unset, .unset, .unset, .unset, .unset, .unset, .unset, .unset] [(.ref (A 5)), (.int (5 : Int32)), (.ref b1), (.ref b1)])) rfl rfl (hb hby at_40)
  have V45 : Arv Z h45 b1 k1 (.object "com/example/formula_to_count/formulatocount/Tokens$Kind") (20 : Int32) [(.ref (A 0)), (.ref (A 1)), (.ref (A 2)), (.ref (A 3)), (.ref (A 4)), (.ref (A 5)), .null, .null, .null, .null, .null, .null, .null, .null, .null, .null, .null, .null, .null, .null] _ := Arv.set Ar38 qq38 S38 M38 H38 G38 rfl W45 5 rfl (Nat.le_of_ble_eq_true rfl)
  have N45 := Fr.snoc X45 N34 gnb1
  have Z45 : n0 ≤ h45.size := Nat.le_trans Z34 (Nat.le_of_eq W45.size.symm)
  obtain ⟨T46, X46, e46, st46⟩ := getS2 X45 hx hZ hown (host := "") (Or.inl (hw _ (List.mem_of_getElem? (i := 16) rfl))) Via.refl e45 (Sk6.ext (cy36.wr W45 gnb1).2) (g := (mkF m 44 #[.val (.int p0), .val (.int p1), .val (.int p2), .val (.int p3), .unset, .unset, .unset, .unset, .unset, .unset, .unset, .unset] [(.int (6 : Int32)), (.ref b1), (.ref b1)])) rfl (hb hby at_44)
  obtain ⟨cl47, Ar47, qq47, S47, M47, H47, G47⟩ := id V45
  have hin47 : ¬ ((6 : Int32) < 0 ∨ cl47.slots.size ≤ ((6 : Int32)).toNatClampNeg) := inb_of S47 ⟨by decide, by decide⟩
  have cy48 := ((EA 6 (by decide)).ext E1)
  have cy49 := (cy48.wr W4)
  have cy50 := (cy49.wr W11)
  have cy51 := (cy50.wr W17)
  have cy52 := (cy51.wr W26)
  have cy53 := (cy52.wr W34)
  have cy54 := (cy53.wr W45)
  obtain ⟨T55, h55, X55, e55, W55, st55⟩ := stR X46 hx hZ e46 Ar47 (j := (6 : Int32)) hin47 rfl (Sto.ofV Ar47 qq47 O1 (Ins.self cy54)) (g := (mkF m 47 #[.val (.int p0), .val (.int p1), .val (.int p2), .val (.int p3), .unset, .unset, .unset, .unset, .unset, .unset, .unset, .unset] [(.ref (A 6)), (.int (6 : Int32)), (.ref b1), (.ref b1)])) rfl rfl (hb hby at_47)
  have V55 : Arv Z h55 b1 k1 (.object "com/example/formula_to_count/formulatocount/Tokens$Kind") (20 : Int32) [(.ref (A 0)), (.ref (A 1)), (.ref (A 2)), (.ref (A 3)), (.ref (A 4)), (.ref (A 5)), (.ref (A 6)), .null, .null, .null, .null, .null, .null, .null, .null, .null, .null, .null, .null, .null] _ := Arv.set Ar47 qq47 S47 M47 H47 G47 rfl W55 6 rfl (Nat.le_of_ble_eq_true rfl)
  have N55 := Fr.snoc X55 N45 gnb1
  have Z55 : n0 ≤ h55.size := Nat.le_trans Z45 (Nat.le_of_eq W55.size.symm)
  have cy56 := (cy36.wr W45 gnb1)
  have cy57 := (cy56.wr W55 gnb1)
  obtain ⟨T58, X58, e58, st58⟩ := getS2 X55 hx hZ hown (host := "") (Or.inl (hw _ (List.mem_of_getElem? (i := 18) rfl))) Via.refl e55 (Sk7.ext cy57.2) (g := (mkF m 51 #[.val (.int p0), .val (.int p1), .val (.int p2), .val (.int p3), .unset, .unset, .unset, .unset, .unset, .unset, .unset, .unset] [(.int (7 : Int32)), (.ref b1), (.ref b1)])) rfl (hb hby at_51)
  obtain ⟨cl59, Ar59, qq59, S59, M59, H59, G59⟩ := id V55
  have hin59 : ¬ ((7 : Int32) < 0 ∨ cl59.slots.size ≤ ((7 : Int32)).toNatClampNeg) := inb_of S59 ⟨by decide, by decide⟩
  have cy60 := ((EA 7 (by decide)).ext E1)
  have cy61 := (cy60.wr W4)
  have cy62 := (cy61.wr W11)
  have cy63 := (cy62.wr W17)
  have cy64 := (cy63.wr W26)
  have cy65 := (cy64.wr W34)
  have cy66 := (cy65.wr W45)
  have cy67 := (cy66.wr W55)
  obtain ⟨T68, h68, X68, e68, W68, st68⟩ := stR X58 hx hZ e58 Ar59 (j := (7 : Int32)) hin59 rfl (Sto.ofV Ar59 qq59 O1 (Ins.self cy67)) (g := (mkF m 54 #[.val (.int p0), .val (.int p1), .val (.int p2), .val (.int p3), .unset, .unset, .unset, .unset, .unset, .unset, .unset, .unset] [(.ref (A 7)), (.int (7 : Int32)), (.ref b1), (.ref b1)])) rfl rfl (hb hby at_54)
  have V68 : Arv Z h68 b1 k1 (.object "com/example/formula_to_count/formulatocount/Tokens$Kind") (20 : Int32) [(.ref (A 0)), (.ref (A 1)), (.ref (A 2)), (.ref (A 3)), (.ref (A 4)), (.ref (A 5)), (.ref (A 6)), (.ref (A 7)), .null, .null, .null, .null, .null, .null, .null, .null, .null, .null, .null, .null] _ := Arv.set Ar59 qq59 S59 M59 H59 G59 rfl W68 7 rfl (Nat.le_of_ble_eq_true rfl)
  have N68 := Fr.snoc X68 N55 gnb1
  have Z68 : n0 ≤ h68.size := Nat.le_trans Z55 (Nat.le_of_eq W68.size.symm)
  obtain ⟨T69, X69, e69, st69⟩ := getS2 X68 hx hZ hown (host := "") (Or.inl (hw _ (List.mem_of_getElem? (i := 20) rfl))) Via.refl e68 (Sk8.ext (cy57.wr W68 gnb1).2) (g := (mkF m 58 #[.val (.int p0), .val (.int p1), .val (.int p2), .val (.int p3), .unset, .unset, .unset, .unset, .unset, .unset, .unset, .unset] [(.int (8 : Int32)), (.ref b1), (.ref b1)])) rfl (hb hby at_58)
  obtain ⟨cl70, Ar70, qq70, S70, M70, H70, G70⟩ := id V68
  have hin70 : ¬ ((8 : Int32) < 0 ∨ cl70.slots.size ≤ ((8 : Int32)).toNatClampNeg) := inb_of S70 ⟨by decide, by decide⟩
  have cy71 := ((EA 8 (by decide)).ext E1)
  have cy72 := (cy71.wr W4)
  have cy73 := (cy72.wr W11)
  have cy74 := (cy73.wr W17)
  have cy75 := (cy74.wr W26)
  have cy76 := (cy75.wr W34)
  have cy77 := (cy76.wr W45)
  have cy78 := (cy77.wr W55)
  have cy79 := (cy78.wr W68)
  obtain ⟨T80, h80, X80, e80, W80, st80⟩ := stR X69 hx hZ e69 Ar70 (j := (8 : Int32)) hin70 rfl (Sto.ofV Ar70 qq70 O1 (Ins.self cy79)) (g := (mkF m 61 #[.val (.int p0), .val (.int p1), .val (.int p2), .val (.int p3), .unset, .unset, .unset, .unset, .unset, .unset, .unset, .unset] [(.ref (A 8)), (.int (8 : Int32)), (.ref b1), (.ref b1)])) rfl rfl (hb hby at_61)
  have V80 : Arv Z h80 b1 k1 (.object "com/example/formula_to_count/formulatocount/Tokens$Kind") (20 : Int32) [(.ref (A 0)), (.ref (A 1)), (.ref (A 2)), (.ref (A 3)), (.ref (A 4)), (.ref (A 5)), (.ref (A 6)), (.ref (A 7)), (.ref (A 8)), .null, .null, .null, .null, .null, .null, .null, .null, .null, .null, .null] _ := Arv.set Ar70 qq70 S70 M70 H70 G70 rfl W80 8 rfl (Nat.le_of_ble_eq_true rfl)
  have N80 := Fr.snoc X80 N68 gnb1
  have Z80 : n0 ≤ h80.size := Nat.le_trans Z68 (Nat.le_of_eq W80.size.symm)
  have cy81 := (cy57.wr W68 gnb1)
  have cy82 := (cy81.wr W80 gnb1)
  obtain ⟨T83, X83, e83, st83⟩ := getS2 X80 hx hZ hown (host := "") (Or.inl (hw _ (List.mem_of_getElem? (i := 22) rfl))) Via.refl e80 (Sk9.ext cy82.2) (g := (mkF m 65 #[.val (.int p0), .val (.int p1), .val (.int p2), .val (.int p3), .unset, .unset, .unset, .unset, .unset, .unset, .unset, .unset] [(.int (9 : Int32)), (.ref b1), (.ref b1)])) rfl (hb hby at_65)
  obtain ⟨cl84, Ar84, qq84, S84, M84, H84, G84⟩ := id V80
  have hin84 : ¬ ((9 : Int32) < 0 ∨ cl84.slots.size ≤ ((9 : Int32)).toNatClampNeg) := inb_of S84 ⟨by decide, by decide⟩
  have cy85 := ((EA 9 (by decide)).ext E1)
  have cy86 := (cy85.wr W4)
  have cy87 := (cy86.wr W11)
  have cy88 := (cy87.wr W17)
  have cy89 := (cy88.wr W26)
  have cy90 := (cy89.wr W34)
  have cy91 := (cy90.wr W45)
  have cy92 := (cy91.wr W55)
  have cy93 := (cy92.wr W68)
  have cy94 := (cy93.wr W80)
  obtain ⟨T95, h95, X95, e95, W95, st95⟩ := stR X83 hx hZ e83 Ar84 (j := (9 : Int32)) hin84 rfl (Sto.ofV Ar84 qq84 O1 (Ins.self cy94)) (g := (mkF m 68 #[.val (.int p0), .val (.int p1), .val (.int p2), .val (.int p3), .unset, .unset, .unset, .unset, .unset, .unset, .unset, .unset] [(.ref (A 9)), (.int (9 : Int32)), (.ref b1), (.ref b1)])) rfl rfl (hb hby at_68)
  have V95 : Arv Z h95 b1 k1 (.object "com/example/formula_to_count/formulatocount/Tokens$Kind") (20 : Int32) [(.ref (A 0)), (.ref (A 1)), (.ref (A 2)), (.ref (A 3)), (.ref (A 4)), (.ref (A 5)), (.ref (A 6)), (.ref (A 7)), (.ref (A 8)), (.ref (A 9)), .null, .null, .null, .null, .null, .null, .null, .null, .null, .null] _ := Arv.set Ar84 qq84 S84 M84 H84 G84 rfl W95 9 rfl (Nat.le_of_ble_eq_true rfl)
  have N95 := Fr.snoc X95 N80 gnb1
  have Z95 : n0 ≤ h95.size := Nat.le_trans Z80 (Nat.le_of_eq W95.size.symm)
  obtain ⟨T96, X96, e96, st96⟩ := getS2 X95 hx hZ hown (host := "") (Or.inl (hw _ (List.mem_of_getElem? (i := 24) rfl))) Via.refl e95 (Sk10.ext (cy82.wr W95 gnb1).2) (g := (mkF m 72 #[.val (.int p0), .val (.int p1), .val (.int p2), .val (.int p3), .unset, .unset, .unset, .unset, .unset, .unset, .unset, .unset] [(.int (10 : Int32)), (.ref b1), (.ref b1)])) rfl (hb hby at_72)
  obtain ⟨cl97, Ar97, qq97, S97, M97, H97, G97⟩ := id V95
  have hin97 : ¬ ((10 : Int32) < 0 ∨ cl97.slots.size ≤ ((10 : Int32)).toNatClampNeg) := inb_of S97 ⟨by decide, by decide⟩
  have cy98 := ((EA 10 (by decide)).ext E1)
  have cy99 := (cy98.wr W4)
  have cy100 := (cy99.wr W11)
  have cy101 := (cy100.wr W17)
  have cy102 := (cy101.wr W26)
  have cy103 := (cy102.wr W34)
  have cy104 := (cy103.wr W45)
  have cy105 := (cy104.wr W55)
  have cy106 := (cy105.wr W68)
  have cy107 := (cy106.wr W80)
  have cy108 := (cy107.wr W95)
  obtain ⟨T109, h109, X109, e109, W109, st109⟩ := stR X96 hx hZ e96 Ar97 (j := (10 : Int32)) hin97 rfl (Sto.ofV Ar97 qq97 O1 (Ins.self cy108)) (g := (mkF m 75 #[.val (.int p0), .val (.int p1), .val (.int p2), .val (.int p3), .unset, .unset, .unset, .unset, .unset, .unset, .unset, .unset] [(.ref (A 10)), (.int (10 : Int32)), (.ref b1), (.ref b1)])) rfl rfl (hb hby at_75)
  have V109 : Arv Z h109 b1 k1 (.object "com/example/formula_to_count/formulatocount/Tokens$Kind") (20 : Int32) [(.ref (A 0)), (.ref (A 1)), (.ref (A 2)), (.ref (A 3)), (.ref (A 4)), (.ref (A 5)), (.ref (A 6)), (.ref (A 7)), (.ref (A 8)), (.ref (A 9)), (.ref (A 10)), .null, .null, .null, .null, .null, .null, .null, .null, .null] _ := Arv.set Ar97 qq97 S97 M97 H97 G97 rfl W109 10 rfl (Nat.le_of_ble_eq_true rfl)
  have N109 := Fr.snoc X109 N95 gnb1
  have Z109 : n0 ≤ h109.size := Nat.le_trans Z95 (Nat.le_of_eq W109.size.symm)
  have cy110 := (cy82.wr W95 gnb1)
  have cy111 := (cy110.wr W109 gnb1)
  obtain ⟨T112, X112, e112, st112⟩ := getS2 X109 hx hZ hown (host := "") (Or.inl (hw _ (List.mem_of_getElem? (i := 26) rfl))) Via.refl e109 (Sk11.ext cy111.2) (g := (mkF m 79 #[.val (.int p0), .val (.int p1), .val (.int p2), .val (.int p3), .unset, .unset, .unset, .unset, .unset, .unset, .unset, .unset] [(.int (11 : Int32)), (.ref b1), (.ref b1)])) rfl (hb hby at_79)
  obtain ⟨cl113, Ar113, qq113, S113, M113, H113, G113⟩ := id V109
  have hin113 : ¬ ((11 : Int32) < 0 ∨ cl113.slots.size ≤ ((11 : Int32)).toNatClampNeg) := inb_of S113 ⟨by decide, by decide⟩
  have cy114 := ((EA 11 (by decide)).ext E1)
  have cy115 := (cy114.wr W4)
  have cy116 := (cy115.wr W11)
  have cy117 := (cy116.wr W17)
  have cy118 := (cy117.wr W26)
  have cy119 := (cy118.wr W34)
  have cy120 := (cy119.wr W45)
  have cy121 := (cy120.wr W55)
  have cy122 := (cy121.wr W68)
  have cy123 := (cy122.wr W80)
  have cy124 := (cy123.wr W95)
  have cy125 := (cy124.wr W109)
  obtain ⟨T126, h126, X126, e126, W126, st126⟩ := stR X112 hx hZ e112 Ar113 (j := (11 : Int32)) hin113 rfl (Sto.ofV Ar113 qq113 O1 (Ins.self cy125)) (g := (mkF m 82 #[.val (.int p0), .val (.int p1), .val (.int p2), .val (.int p3), .unset, .unset, .unset, .unset, .unset, .unset, .unset, .unset] [(.ref (A 11)), (.int (11 : Int32)), (.ref b1), (.ref b1)])) rfl rfl (hb hby at_82)
  have V126 : Arv Z h126 b1 k1 (.object "com/example/formula_to_count/formulatocount/Tokens$Kind") (20 : Int32) [(.ref (A 0)), (.ref (A 1)), (.ref (A 2)), (.ref (A 3)), (.ref (A 4)), (.ref (A 5)), (.ref (A 6)), (.ref (A 7)), (.ref (A 8)), (.ref (A 9)), (.ref (A 10)), (.ref (A 11)), .null, .null, .null, .null, .null, .null, .null, .null] _ := Arv.set Ar113 qq113 S113 M113 H113 G113 rfl W126 11 rfl (Nat.le_of_ble_eq_true rfl)
  have N126 := Fr.snoc X126 N109 gnb1
  have Z126 : n0 ≤ h126.size := Nat.le_trans Z109 (Nat.le_of_eq W126.size.symm)
  obtain ⟨T127, X127, e127, st127⟩ := getS2 X126 hx hZ hown (host := "") (Or.inl (hw _ (List.mem_of_getElem? (i := 28) rfl))) Via.refl e126 (Sk12.ext (cy111.wr W126 gnb1).2) (g := (mkF m 86 #[.val (.int p0), .val (.int p1), .val (.int p2), .val (.int p3), .unset, .unset, .unset, .unset, .unset, .unset, .unset, .unset] [(.int (12 : Int32)), (.ref b1), (.ref b1)])) rfl (hb hby at_86)
  obtain ⟨cl128, Ar128, qq128, S128, M128, H128, G128⟩ := id V126
  have hin128 : ¬ ((12 : Int32) < 0 ∨ cl128.slots.size ≤ ((12 : Int32)).toNatClampNeg) := inb_of S128 ⟨by decide, by decide⟩
  have cy129 := ((EA 12 (by decide)).ext E1)
  have cy130 := (cy129.wr W4)
  have cy131 := (cy130.wr W11)
  have cy132 := (cy131.wr W17)
  have cy133 := (cy132.wr W26)
  have cy134 := (cy133.wr W34)
  have cy135 := (cy134.wr W45)
  have cy136 := (cy135.wr W55)
  have cy137 := (cy136.wr W68)
  have cy138 := (cy137.wr W80)
  have cy139 := (cy138.wr W95)
  have cy140 := (cy139.wr W109)
  have cy141 := (cy140.wr W126)
  obtain ⟨T142, h142, X142, e142, W142, st142⟩ := stR X127 hx hZ e127 Ar128 (j := (12 : Int32)) hin128 rfl (Sto.ofV Ar128 qq128 O1 (Ins.self cy141)) (g := (mkF m 89 #[.val (.int p0), .val (.int p1), .val (.int p2), .val (.int p3), .unset, .unset, .unset, .unset, .unset, .unset, .unset, .unset] [(.ref (A 12)), (.int (12 : Int32)), (.ref b1), (.ref b1)])) rfl rfl (hb hby at_89)
  have V142 : Arv Z h142 b1 k1 (.object "com/example/formula_to_count/formulatocount/Tokens$Kind") (20 : Int32) [(.ref (A 0)), (.ref (A 1)), (.ref (A 2)), (.ref (A 3)), (.ref (A 4)), (.ref (A 5)), (.ref (A 6)), (.ref (A 7)), (.ref (A 8)), (.ref (A 9)), (.ref (A 10)), (.ref (A 11)), (.ref (A 12)), .null, .null, .null, .null, .null, .null, .null] _ := Arv.set Ar128 qq128 S128 M128 H128 G128 rfl W142 12 rfl (Nat.le_of_ble_eq_true rfl)
  have N142 := Fr.snoc X142 N126 gnb1
  have Z142 : n0 ≤ h142.size := Nat.le_trans Z126 (Nat.le_of_eq W142.size.symm)
  have cy143 := (cy111.wr W126 gnb1)
  have cy144 := (cy143.wr W142 gnb1)
  obtain ⟨T145, X145, e145, st145⟩ := getS2 X142 hx hZ hown (host := "") (Or.inl (hw _ (List.mem_of_getElem? (i := 30) rfl))) Via.refl e142 (Sk13.ext cy144.2) (g := (mkF m 93 #[.val (.int p0), .val (.int p1), .val (.int p2), .val (.int p3), .unset, .unset, .unset, .unset, .unset, .unset, .unset, .unset] [(.int (13 : Int32)), (.ref b1), (.ref b1)])) rfl (hb hby at_93)
  obtain ⟨cl146, Ar146, qq146, S146, M146, H146, G146⟩ := id V142
  have hin146 : ¬ ((13 : Int32) < 0 ∨ cl146.slots.size ≤ ((13 : Int32)).toNatClampNeg) := inb_of S146 ⟨by decide, by decide⟩
  have cy147 := ((EA 13 (by decide)).ext E1)
  have cy148 := (cy147.wr W4)
  have cy149 := (cy148.wr W11)
  have cy150 := (cy149.wr W17)
  have cy151 := (cy150.wr W26)
  have cy152 := (cy151.wr W34)
  have cy153 := (cy152.wr W45)
  have cy154 := (cy153.wr W55)
  have cy155 := (cy154.wr W68)
  have cy156 := (cy155.wr W80)
  have cy157 := (cy156.wr W95)
  have cy158 := (cy157.wr W109)
  have cy159 := (cy158.wr W126)
  have cy160 := (cy159.wr W142)
  obtain ⟨T161, h161, X161, e161, W161, st161⟩ := stR X145 hx hZ e145 Ar146 (j := (13 : Int32)) hin146 rfl (Sto.ofV Ar146 qq146 O1 (Ins.self cy160)) (g := (mkF m 96 #[.val (.int p0), .val (.int p1), .val (.int p2), .val (.int p3), .unset, .unset, .unset, .unset, .unset, .unset, .unset, .unset] [(.ref (A 13)), (.int (13 : Int32)), (.ref b1), (.ref b1)])) rfl rfl (hb hby at_96)
  have V161 : Arv Z h161 b1 k1 (.object "com/example/formula_to_count/formulatocount/Tokens$Kind") (20 : Int32) [(.ref (A 0)), (.ref (A 1)), (.ref (A 2)), (.ref (A 3)), (.ref (A 4)), (.ref (A 5)), (.ref (A 6)), (.ref (A 7)), (.ref (A 8)), (.ref (A 9)), (.ref (A 10)), (.ref (A 11)), (.ref (A 12)), (.ref (A 13)), .null, .null, .null, .null, .null, .null] _ := Arv.set Ar146 qq146 S146 M146 H146 G146 rfl W161 13 rfl (Nat.le_of_ble_eq_true rfl)
  have N161 := Fr.snoc X161 N142 gnb1
  have Z161 : n0 ≤ h161.size := Nat.le_trans Z142 (Nat.le_of_eq W161.size.symm)
  obtain ⟨T162, X162, e162, st162⟩ := getS2 X161 hx hZ hown (host := "") (Or.inl (hw _ (List.mem_of_getElem? (i := 32) rfl))) Via.refl e161 (Sk14.ext (cy144.wr W161 gnb1).2) (g := (mkF m 100 #[.val (.int p0), .val (.int p1), .val (.int p2), .val (.int p3), .unset, .unset, .unset, .unset, .unset, .unset, .unset, .unset] [(.int (14 : Int32)), (.ref b1), (.ref b1)])) rfl (hb hby at_100)
  obtain ⟨cl163, Ar163, qq163, S163, M163, H163, G163⟩ := id V161
  have hin163 : ¬ ((14 : Int32) < 0 ∨ cl163.slots.size ≤ ((14 : Int32)).toNatClampNeg) := inb_of S163 ⟨by decide, by decide⟩
  have cy164 := ((EA 14 (by decide)).ext E1)
  have cy165 := (cy164.wr W4)
  have cy166 := (cy165.wr W11)
  have cy167 := (cy166.wr W17)
  have cy168 := (cy167.wr W26)
  have cy169 := (cy168.wr W34)
  have cy170 := (cy169.wr W45)
  have cy171 := (cy170.wr W55)
  have cy172 := (cy171.wr W68)
  have cy173 := (cy172.wr W80)
  have cy174 := (cy173.wr W95)
  have cy175 := (cy174.wr W109)
  have cy176 := (cy175.wr W126)
  have cy177 := (cy176.wr W142)
  have cy178 := (cy177.wr W161)
  obtain ⟨T179, h179, X179, e179, W179, st179⟩ := stR X162 hx hZ e162 Ar163 (j := (14 : Int32)) hin163 rfl (Sto.ofV Ar163 qq163 O1 (Ins.self cy178)) (g := (mkF m 103 #[.val (.int p0), .val (.int p1), .val (.int p2), .val (.int p3), .unset, .unset, .unset, .unset, .unset, .unset, .unset, .unset] [(.ref (A 14)), (.int (14 : Int32)), (.ref b1), (.ref b1)])) rfl rfl (hb hby at_103)
  have V179 : Arv Z h179 b1 k1 (.object "com/example/formula_to_count/formulatocount/Tokens$Kind") (20 : Int32) [(.ref (A 0)), (.ref (A 1)), (.ref (A 2)), (.ref (A 3)), (.ref (A 4)), (.ref (A 5)), (.ref (A 6)), (.ref (A 7)), (.ref (A 8)), (.ref (A 9)), (.ref (A 10)), (.ref (A 11)), (.ref (A 12)), (.ref (A 13)), (.ref (A 14)), .null, .null, .null, .null, .null] _ := Arv.set Ar163 qq163 S163 M163 H163 G163 rfl W179 14 rfl (Nat.le_of_ble_eq_true rfl)
  have N179 := Fr.snoc X179 N161 gnb1
  have Z179 : n0 ≤ h179.size := Nat.le_trans Z161 (Nat.le_of_eq W179.size.symm)
  have cy180 := (cy144.wr W161 gnb1)
  have cy181 := (cy180.wr W179 gnb1)
  obtain ⟨T182, X182, e182, st182⟩ := getS2 X179 hx hZ hown (host := "") (Or.inl (hw _ (List.mem_of_getElem? (i := 34) rfl))) Via.refl e179 (Sk15.ext cy181.2) (g := (mkF m 107 #[.val (.int p0), .val (.int p1), .val (.int p2), .val (.int p3), .unset, .unset, .unset, .unset, .unset, .unset, .unset, .unset] [(.int (15 : Int32)), (.ref b1), (.ref b1)])) rfl (hb hby at_107)
  obtain ⟨cl183, Ar183, qq183, S183, M183, H183, G183⟩ := id V179
  have hin183 : ¬ ((15 : Int32) < 0 ∨ cl183.slots.size ≤ ((15 : Int32)).toNatClampNeg) := inb_of S183 ⟨by decide, by decide⟩
  have cy184 := ((EA 15 (by decide)).ext E1)
  have cy185 := (cy184.wr W4)
  have cy186 := (cy185.wr W11)
  have cy187 := (cy186.wr W17)
  have cy188 := (cy187.wr W26)
  have cy189 := (cy188.wr W34)
  have cy190 := (cy189.wr W45)
  have cy191 := (cy190.wr W55)
  have cy192 := (cy191.wr W68)
  have cy193 := (cy192.wr W80)
  have cy194 := (cy193.wr W95)
  have cy195 := (cy194.wr W109)
  have cy196 := (cy195.wr W126)
  have cy197 := (cy196.wr W142)
  have cy198 := (cy197.wr W161)
  have cy199 := (cy198.wr W179)
  obtain ⟨T200, h200, X200, e200, W200, st200⟩ := stR X182 hx hZ e182 Ar183 (j := (15 : Int32)) hin183 rfl (Sto.ofV Ar183 qq183 O1 (Ins.self cy199)) (g := (mkF m 110 #[.val (.int p0), .val (.int p1), .val (.int p2), .val (.int p3), .unset, .unset, .unset, .unset, .unset, .unset, .unset, .unset] [(.ref (A 15)), (.int (15 : Int32)), (.ref b1), (.ref b1)])) rfl rfl (hb hby at_110)
  have V200 : Arv Z h200 b1 k1 (.object "com/example/formula_to_count/formulatocount/Tokens$Kind") (20 : Int32) [(.ref (A 0)), (.ref (A 1)), (.ref (A 2)), (.ref (A 3)), (.ref (A 4)), (.ref (A 5)), (.ref (A 6)), (.ref (A 7)), (.ref (A 8)), (.ref (A 9)), (.ref (A 10)), (.ref (A 11)), (.ref (A 12)), (.ref (A 13)), (.ref (A 14)), (.ref (A 15)), .null, .null, .null, .null] _ := Arv.set Ar183 qq183 S183 M183 H183 G183 rfl W200 15 rfl (Nat.le_of_ble_eq_true rfl)
  have N200 := Fr.snoc X200 N179 gnb1
  have Z200 : n0 ≤ h200.size := Nat.le_trans Z179 (Nat.le_of_eq W200.size.symm)
  obtain ⟨T201, X201, e201, st201⟩ := getS2 X200 hx hZ hown (host := "") (Or.inl (hw _ (List.mem_of_getElem? (i := 36) rfl))) Via.refl e200 (Sk16.ext (cy181.wr W200 gnb1).2) (g := (mkF m 114 #[.val (.int p0), .val (.int p1), .val (.int p2), .val (.int p3), .unset, .unset, .unset, .unset, .unset, .unset, .unset, .unset] [(.int (16 : Int32)), (.ref b1), (.ref b1)])) rfl (hb hby at_114)
  obtain ⟨cl202, Ar202, qq202, S202, M202, H202, G202⟩ := id V200
  have hin202 : ¬ ((16 : Int32) < 0 ∨ cl202.slots.size ≤ ((16 : Int32)).toNatClampNeg) := inb_of S202 ⟨by decide, by decide⟩
  have cy203 := ((EA 16 (by decide)).ext E1)
  have cy204 := (cy203.wr W4)
  have cy205 := (cy204.wr W11)
  have cy206 := (cy205.wr W17)
  have cy207 := (cy206.wr W26)
  have cy208 := (cy207.wr W34)
  have cy209 := (cy208.wr W45)
  have cy210 := (cy209.wr W55)
  have cy211 := (cy210.wr W68)
  have cy212 := (cy211.wr W80)
  have cy213 := (cy212.wr W95)
  have cy214 := (cy213.wr W109)
  have cy215 := (cy214.wr W126)
  have cy216 := (cy215.wr W142)
  have cy217 := (cy216.wr W161)
  have cy218 := (cy217.wr W179)
  have cy219 := (cy218.wr W200)
  obtain ⟨T220, h220, X220, e220, W220, st220⟩ := stR X201 hx hZ e201 Ar202 (j := (16 : Int32)) hin202 rfl (Sto.ofV Ar202 qq202 O1 (Ins.self cy219)) (g := (mkF m 117 #[.val (.int p0), .val (.int p1), .val (.int p2), .val (.int p3), .unset, .unset, .unset, .unset, .unset, .unset, .unset, .unset] [(.ref (A 16)), (.int (16 : Int32)), (.ref b1), (.ref b1)])) rfl rfl (hb hby at_117)
  have V220 : Arv Z h220 b1 k1 (.object "com/example/formula_to_count/formulatocount/Tokens$Kind") (20 : Int32) [(.ref (A 0)), (.ref (A 1)), (.ref (A 2)), (.ref (A 3)), (.ref (A 4)), (.ref (A 5)), (.ref (A 6)), (.ref (A 7)), (.ref (A 8)), (.ref (A 9)), (.ref (A 10)), (.ref (A 11)), (.ref (A 12)), (.ref (A 13)), (.ref (A 14)), (.ref (A 15)), (.ref (A 16)), .null, .null, .null] _ := Arv.set Ar202 qq202 S202 M202 H202 G202 rfl W220 16 rfl (Nat.le_of_ble_eq_true rfl)
  have N220 := Fr.snoc X220 N200 gnb1
  have Z220 : n0 ≤ h220.size := Nat.le_trans Z200 (Nat.le_of_eq W220.size.symm)
  have cy221 := (cy181.wr W200 gnb1)
  have cy222 := (cy221.wr W220 gnb1)
  obtain ⟨T223, X223, e223, st223⟩ := getS2 X220 hx hZ hown (host := "") (Or.inl (hw _ (List.mem_of_getElem? (i := 38) rfl))) Via.refl e220 (Sk17.ext cy222.2) (g := (mkF m 121 #[.val (.int p0), .val (.int p1), .val (.int p2), .val (.int p3), .unset, .unset, .unset, .unset, .unset, .unset, .unset, .unset] [(.int (17 : Int32)), (.ref b1), (.ref b1)])) rfl (hb hby at_121)
  obtain ⟨cl224, Ar224, qq224, S224, M224, H224, G224⟩ := id V220
  have hin224 : ¬ ((17 : Int32) < 0 ∨ cl224.slots.size ≤ ((17 : Int32)).toNatClampNeg) := inb_of S224 ⟨by decide, by decide⟩
  have cy225 := ((EA 17 (by decide)).ext E1)
  have cy226 := (cy225.wr W4)
  have cy227 := (cy226.wr W11)
  have cy228 := (cy227.wr W17)
  have cy229 := (cy228.wr W26)
  have cy230 := (cy229.wr W34)
  have cy231 := (cy230.wr W45)
  have cy232 := (cy231.wr W55)
  have cy233 := (cy232.wr W68)
  have cy234 := (cy233.wr W80)
  have cy235 := (cy234.wr W95)
  have cy236 := (cy235.wr W109)
  have cy237 := (cy236.wr W126)
  have cy238 := (cy237.wr W142)
  have cy239 := (cy238.wr W161)
  have cy240 := (cy239.wr W179)
  have cy241 := (cy240.wr W200)
  have cy242 := (cy241.wr W220)
  obtain ⟨T243, h243, X243, e243, W243, st243⟩ := stR X223 hx hZ e223 Ar224 (j := (17 : Int32)) hin224 rfl (Sto.ofV Ar224 qq224 O1 (Ins.self cy242)) (g := (mkF m 124 #[.val (.int p0), .val (.int p1), .val (.int p2), .val (.int p3), .unset, .unset, .unset, .unset, .unset, .unset, .unset, .unset] [(.ref (A 17)), (.int (17 : Int32)), (.ref b1), (.ref b1)])) rfl rfl (hb hby at_124)
  have V243 : Arv Z h243 b1 k1 (.object "com/example/formula_to_count/formulatocount/Tokens$Kind") (20 : Int32) [(.ref (A 0)), (.ref (A 1)), (.ref (A 2)), (.ref (A 3)), (.ref (A 4)), (.ref (A 5)), (.ref (A 6)), (.ref (A 7)), (.ref (A 8)), (.ref (A 9)), (.ref (A 10)), (.ref (A 11)), (.ref (A 12)), (.ref (A 13)), (.ref (A 14)), (.ref (A 15)), (.ref (A 16)), (.ref (A 17)), .null, .null] _ := Arv.set Ar224 qq224 S224 M224 H224 G224 rfl W243 17 rfl (Nat.le_of_ble_eq_true rfl)
  have N243 := Fr.snoc X243 N220 gnb1
  have Z243 : n0 ≤ h243.size := Nat.le_trans Z220 (Nat.le_of_eq W243.size.symm)
  obtain ⟨T244, X244, e244, st244⟩ := getS2 X243 hx hZ hown (host := "") (Or.inl (hw _ (List.mem_of_getElem? (i := 40) rfl))) Via.refl e243 (Sk18.ext (cy222.wr W243 gnb1).2) (g := (mkF m 128 #[.val (.int p0), .val (.int p1), .val (.int p2), .val (.int p3), .unset, .unset, .unset, .unset, .unset, .unset, .unset, .unset] [(.int (18 : Int32)), (.ref b1), (.ref b1)])) rfl (hb hby at_128)
  obtain ⟨cl245, Ar245, qq245, S245, M245, H245, G245⟩ := id V243
  have hin245 : ¬ ((18 : Int32) < 0 ∨ cl245.slots.size ≤ ((18 : Int32)).toNatClampNeg) := inb_of S245 ⟨by decide, by decide⟩
  have cy246 := ((EA 18 (by decide)).ext E1)
  have cy247 := (cy246.wr W4)
  have cy248 := (cy247.wr W11)
  have cy249 := (cy248.wr W17)
  have cy250 := (cy249.wr W26)
  have cy251 := (cy250.wr W34)
  have cy252 := (cy251.wr W45)
  have cy253 := (cy252.wr W55)
  have cy254 := (cy253.wr W68)
  have cy255 := (cy254.wr W80)
  have cy256 := (cy255.wr W95)
  have cy257 := (cy256.wr W109)
  have cy258 := (cy257.wr W126)
  have cy259 := (cy258.wr W142)
  have cy260 := (cy259.wr W161)
  have cy261 := (cy260.wr W179)
  have cy262 := (cy261.wr W200)
  have cy263 := (cy262.wr W220)
  have cy264 := (cy263.wr W243)
  obtain ⟨T265, h265, X265, e265, W265, st265⟩ := stR X244 hx hZ e244 Ar245 (j := (18 : Int32)) hin245 rfl (Sto.ofV Ar245 qq245 O1 (Ins.self cy264)) (g := (mkF m 131 #[.val (.int p0), .val (.int p1), .val (.int p2), .val (.int p3), .unset, .unset, .unset, .unset, .unset, .unset, .unset, .unset] [(.ref (A 18)), (.int (18 : Int32)), (.ref b1), (.ref b1)])) rfl rfl (hb hby at_131)
  have V265 : Arv Z h265 b1 k1 (.object "com/example/formula_to_count/formulatocount/Tokens$Kind") (20 : Int32) [(.ref (A 0)), (.ref (A 1)), (.ref (A 2)), (.ref (A 3)), (.ref (A 4)), (.ref (A 5)), (.ref (A 6)), (.ref (A 7)), (.ref (A 8)), (.ref (A 9)), (.ref (A 10)), (.ref (A 11)), (.ref (A 12)), (.ref (A 13)), (.ref (A 14)), (.ref (A 15)), (.ref (A 16)), (.ref (A 17)), (.ref (A 18)), .null] _ := Arv.set Ar245 qq245 S245 M245 H245 G245 rfl W265 18 rfl (Nat.le_of_ble_eq_true rfl)
  have N265 := Fr.snoc X265 N243 gnb1
  have Z265 : n0 ≤ h265.size := Nat.le_trans Z243 (Nat.le_of_eq W265.size.symm)
  have cy266 := (cy222.wr W243 gnb1)
  have cy267 := (cy266.wr W265 gnb1)
  obtain ⟨T268, X268, e268, st268⟩ := getS2 X265 hx hZ hown (host := "") (Or.inl (hw _ (List.mem_of_getElem? (i := 42) rfl))) Via.refl e265 (Sk19.ext cy267.2) (g := (mkF m 135 #[.val (.int p0), .val (.int p1), .val (.int p2), .val (.int p3), .unset, .unset, .unset, .unset, .unset, .unset, .unset, .unset] [(.int (19 : Int32)), (.ref b1), (.ref b1)])) rfl (hb hby at_135)
  obtain ⟨cl269, Ar269, qq269, S269, M269, H269, G269⟩ := id V265
  have hin269 : ¬ ((19 : Int32) < 0 ∨ cl269.slots.size ≤ ((19 : Int32)).toNatClampNeg) := inb_of S269 ⟨by decide, by decide⟩
  have cy270 := ((EA 19 (by decide)).ext E1)
  have cy271 := (cy270.wr W4)
  have cy272 := (cy271.wr W11)
  have cy273 := (cy272.wr W17)
  have cy274 := (cy273.wr W26)
  have cy275 := (cy274.wr W34)
  have cy276 := (cy275.wr W45)
  have cy277 := (cy276.wr W55)
  have cy278 := (cy277.wr W68)
  have cy279 := (cy278.wr W80)
  have cy280 := (cy279.wr W95)
  have cy281 := (cy280.wr W109)
  have cy282 := (cy281.wr W126)
  have cy283 := (cy282.wr W142)
  have cy284 := (cy283.wr W161)
  have cy285 := (cy284.wr W179)
  have cy286 := (cy285.wr W200)
  have cy287 := (cy286.wr W220)
  have cy288 := (cy287.wr W243)
  have cy289 := (cy288.wr W265)
  obtain ⟨T290, h290, X290, e290, W290, st290⟩ := stR X268 hx hZ e268 Ar269 (j := (19 : Int32)) hin269 rfl (Sto.ofV Ar269 qq269 O1 (Ins.self cy289)) (g := (mkF m 138 #[.val (.int p0), .val (.int p1), .val (.int p2), .val (.int p3), .unset, .unset, .unset, .unset, .unset, .unset, .unset, .unset] [(.ref (A 19)), (.int (19 : Int32)), (.ref b1), (.ref b1)])) rfl rfl (hb hby at_138)
  have V290 : Arv Z h290 b1 k1 (.object "com/example/formula_to_count/formulatocount/Tokens$Kind") (20 : Int32) [(.ref (A 0)), (.ref (A 1)), (.ref (A 2)), (.ref (A 3)), (.ref (A 4)), (.ref (A 5)), (.ref (A 6)), (.ref (A 7)), (.ref (A 8)), (.ref (A 9)), (.ref (A 10)), (.ref (A 11)), (.ref (A 12)), (.ref (A 13)), (.ref (A 14)), (.ref (A 15)), (.ref (A 16)), (.ref (A 17)), (.ref (A 18)), (.ref (A 19))] _ := Arv.set Ar269 qq269 S269 M269 H269 G269 rfl W290 19 rfl (Nat.le_of_ble_eq_true rfl)
  have N290 := Fr.snoc X290 N265 gnb1
  have Z290 : n0 ≤ h290.size := Nat.le_trans Z265 (Nat.le_of_eq W290.size.symm)
  have hnz147_291 : (20 : Int32) ≠ (0 : Int32) := by decide
  obtain ⟨v292, ev292⟩ : ∃ z : Int32, z = ((p0 &&& (2147483647 : Int32)) % (20 : Int32)) := ⟨_, rfl⟩
  obtain ⟨nj, ltj, eqj⟩ := own_idx ev292
  have K293 : ∀ target, Steps p.tables e below (T290.setTop (mkF m 173 #[.val (.int p0), .val (.int p1), .val (.int p2), .val (.int p3), .val (.ref b1), .val (.int v292), .val (.int ((p1 &&& (255 : Int32)).toUInt32.toUInt16.toUInt32.toInt32)), .val (.int ((p2 &&& (255 : Int32)).toUInt32.toUInt16.toUInt32.toInt32)), .val (.int (p3 &&& (3 : Int32))), .unset, .unset, .unset] [(.int (p3 &&& (3 : Int32)))])) target → Steps p.tables e below (s₁.setTop (mkF m 0 #[.val (.int p0), .val (.int p1), .val (.int p2), .val (.int p3), .unset, .unset, .unset, .unset, .unset, .unset, .unset, .unset] [])) target := by
    intro target kt
    show Steps p.tables e below (s₁.setTop (mkF m 0 #[.val (.int p0), .val (.int p1), .val (.int p2), .val (.int p3), .unset, .unset, .unset, .unset, .unset, .unset, .unset, .unset] [])) _
    refine XS.bipush X0.here hx rfl (hb hby at_0) ?_
    show Steps p.tables e below (s₁.setTop (mkF m 2 #[.val (.int p0), .val (.int p1), .val (.int p2), .val (.int p3), .unset, .unset, .unset, .unset, .unset, .unset, .unset, .unset] [(.int (20 : Int32))])) _
    refine st1 _ ?_
    show Steps p.tables e below (T1.setTop (mkF m 5 #[.val (.int p0), .val (.int p1), .val (.int p2), .val (.int p3), .unset, .unset, .unset, .unset, .unset, .unset, .unset, .unset] [(.ref b1)])) _
    refine XS.dup X1.here hx rfl (hb hby at_5) rfl rfl ?_
    show Steps p.tables e below (T1.setTop (mkF m 6 #[.val (.int p0), .val (.int p1), .val (.int p2), .val (.int p3), .unset, .unset, .unset, .unset, .unset, .unset, .unset, .unset] [(.ref b1), (.ref b1)])) _
    refine XS.iconst X1.here hx rfl (hb hby at_6) ?_
    show Steps p.tables e below (T1.setTop (mkF m 7 #[.val (.int p0), .val (.int p1), .val (.int p2), .val (.int p3), .unset, .unset, .unset, .unset, .unset, .unset, .unset, .unset] [(.int (0 : Int32)), (.ref b1), (.ref b1)])) _
    refine st2 _ ?_
    show Steps p.tables e below (T2.setTop (mkF m 10 #[.val (.int p0), .val (.int p1), .val (.int p2), .val (.int p3), .unset, .unset, .unset, .unset, .unset, .unset, .unset, .unset] [(.ref (A 0)), (.int (0 : Int32)), (.ref b1), (.ref b1)])) _
    refine st4 _ ?_
    show Steps p.tables e below (T4.setTop (mkF m 11 #[.val (.int p0), .val (.int p1), .val (.int p2), .val (.int p3), .unset, .unset, .unset, .unset, .unset, .unset, .unset, .unset] [(.ref b1)])) _
    refine XS.dup X4.here hx rfl (hb hby at_11) rfl rfl ?_
    show Steps p.tables e below (T4.setTop (mkF m 12 #[.val (.int p0), .val (.int p1), .val (.int p2), .val (.int p3), .unset, .unset, .unset, .unset, .unset, .unset, .unset, .unset] [(.ref b1), (.ref b1)])) _
    refine XS.iconst X4.here hx rfl (hb hby at_12) ?_
    show Steps p.tables e below (T4.setTop (mkF m 13 #[.val (.int p0), .val (.int p1), .val (.int p2), .val (.int p3), .unset, .unset, .unset, .unset, .unset, .unset, .unset, .unset] [(.int (1 : Int32)), (.ref b1), (.ref b1)])) _
    refine st7 _ ?_
    show Steps p.tables e below (T7.setTop (mkF m 16 #[.val (.int p0), .val (.int p1), .val (.int p2), .val (.int p3), .unset, .unset, .unset, .unset, .unset, .unset, .unset, .unset] [(.ref (A 1)), (.int (1 : Int32)), (.ref b1), (.ref b1)])) _
    refine st11 _ ?_
    show Steps p.tables e below (T11.setTop (mkF m 17 #[.val (.int p0), .val (.int p1), .val (.int p2), .val (.int p3), .unset, .unset, .unset, .unset, .unset, .unset, .unset, .unset] [(.ref b1)])) _
    refine XS.dup X11.here hx rfl (hb hby at_17) rfl rfl ?_
    show Steps p.tables e below (T11.setTop (mkF m 18 #[.val (.int p0), .val (.int p1), .val (.int p2), .val (.int p3), .unset, .unset, .unset, .unset, .unset, .unset, .unset, .unset] [(.ref b1), (.ref b1)])) _
    refine XS.iconst X11.here hx rfl (hb hby at_18) ?_
    show Steps p.tables e below (T11.setTop (mkF m 19 #[.val (.int p0), .val (.int p1), .val (.int p2), .val (.int p3), .unset, .unset, .unset, .unset, .unset, .unset, .unset, .unset] [(.int (2 : Int32)), (.ref b1), (.ref b1)])) _
    refine st12 _ ?_
    show Steps p.tables e below (T12.setTop (mkF m 22 #[.val (.int p0), .val (.int p1), .val (.int p2), .val (.int p3), .unset, .unset, .unset, .unset, .unset, .unset, .unset, .unset] [(.ref (A 2)), (.int (2 : Int32)), (.ref b1), (.ref b1)])) _
    refine st17 _ ?_
    show Steps p.tables e below (T17.setTop (mkF m 23 #[.val (.int p0), .val (.int p1), .val (.int p2), .val (.int p3), .unset, .unset, .unset, .unset, .unset, .unset, .unset, .unset] [(.ref b1)])) _
    refine XS.dup X17.here hx rfl (hb hby at_23) rfl rfl ?_
    show Steps p.tables e below (T17.setTop (mkF m 24 #[.val (.int p0), .val (.int p1), .val (.int p2), .val (.int p3), .unset, .unset, .unset, .unset, .unset, .unset, .unset, .unset] [(.ref b1), (.ref b1)])) _
    refine XS.iconst X17.here hx rfl (hb hby at_24) ?_
    show Steps p.tables e below (T17.setTop (mkF m 25 #[.val (.int p0), .val (.int p1), .val (.int p2), .val (.int p3), .unset, .unset, .unset, .unset, .unset, .unset, .unset, .unset] [(.int (3 : Int32)), (.ref b1), (.ref b1)])) _
    refine st20 _ ?_
    show Steps p.tables e below (T20.setTop (mkF m 28 #[.val (.int p0), .val (.int p1), .val (.int p2), .val (.int p3), .unset, .unset, .unset, .unset, .unset, .unset, .unset, .unset] [(.ref (A 3)), (.int (3 : Int32)), (.ref b1), (.ref b1)])) _
    refine st26 _ ?_
    show Steps p.tables e below (T26.setTop (mkF m 29 #[.val (.int p0), .val (.int p1), .val (.int p2), .val (.int p3), .unset, .unset, .unset, .unset, .unset, .unset, .unset, .unset] [(.ref b1)])) _
    refine XS.dup X26.here hx rfl (hb hby at_29) rfl rfl ?_
    show Steps p.tables e below (T26.setTop (mkF m 30 #[.val (.int p0), .val (.int p1), .val (.int p2), .val (.int p3), .unset, .unset, .unset, .unset, .unset, .unset, .unset, .unset] [(.ref b1), (.ref b1)])) _
    refine XS.iconst X26.here hx rfl (hb hby at_30) ?_
    show Steps p.tables e below (T26.setTop (mkF m 31 #[.val (.int p0), .val (.int p1), .val (.int p2), .val (.int p3), .unset, .unset, .unset, .unset, .unset, .unset, .unset, .unset] [(.int (4 : Int32)), (.ref b1), (.ref b1)])) _
    refine st27 _ ?_
    show Steps p.tables e below (T27.setTop (mkF m 34 #[.val (.int p0), .val (.int p1), .val (.int p2), .val (.int p3), .unset, .unset, .unset, .unset, .unset, .unset, .unset, .unset] [(.ref (A 4)), (.int (4 : Int32)), (.ref b1), (.ref b1)])) _
    refine st34 _ ?_
    show Steps p.tables e below (T34.setTop (mkF m 35 #[.val (.int p0), .val (.int p1), .val (.int p2), .val (.int p3), .unset, .unset, .unset, .unset, .unset, .unset, .unset, .unset] [(.ref b1)])) _
    refine XS.dup X34.here hx rfl (hb hby at_35) rfl rfl ?_
    show Steps p.tables e below (T34.setTop (mkF m 36 #[.val (.int p0), .val (.int p1), .val (.int p2), .val (.int p3), .unset, .unset, .unset, .unset, .unset, .unset, .unset, .unset] [(.ref b1), (.ref b1)])) _
    refine XS.iconst X34.here hx rfl (hb hby at_36) ?_
    show Steps p.tables e below (T34.setTop (mkF m 37 #[.val (.int p0), .val (.int p1), .val (.int p2), .val (.int p3), .unset, .unset, .unset, .unset, .unset, .unset, .unset, .unset] [(.int (5 : Int32)), (.ref b1), (.ref b1)])) _
    refine st37 _ ?_
    show Steps p.tables e below (T37.setTop (mkF m 40 #[.val (.int p0), .val (.int p1), .val (.int p2), .val (.int p3), .unset, .unset, .unset, .unset, .unset, .unset, .unset, .unset] [(.ref (A 5)), (.int (5 : Int32)), (.ref b1), (.ref b1)])) _
    refine st45 _ ?_
    show Steps p.tables e below (T45.setTop (mkF m 41 #[.val (.int p0), .val (.int p1), .val (.int p2), .val (.int p3), .unset, .unset, .unset, .unset, .unset, .unset, .unset, .unset] [(.ref b1)])) _
    refine XS.dup X45.here hx rfl (hb hby at_41) rfl rfl ?_
    show Steps p.tables e below (T45.setTop (mkF m 42 #[.val (.int p0), .val (.int p1), .val (.int p2), .val (.int p3), .unset, .unset, .unset, .unset, .unset, .unset, .unset, .unset] [(.ref b1), (.ref b1)])) _
    refine XS.bipush X45.here hx rfl (hb hby at_42) ?_
    show Steps p.tables e below (T45.setTop (mkF m 44 #[.val (.int p0), .val (.int p1), .val (.int p2), .val (.int p3), .unset, .unset, .unset, .unset, .unset, .unset, .unset, .unset] [(.int (6 : Int32)), (.ref b1), (.ref b1)])) _
    refine st46 _ ?_
    show Steps p.tables e below (T46.setTop (mkF m 47 #[.val (.int p0), .val (.int p1), .val (.int p2), .val (.int p3), .unset, .unset, .unset, .unset, .unset, .unset, .unset, .unset] [(.ref (A 6)), (.int (6 : Int32)), (.ref b1), (.ref b1)])) _
    refine st55 _ ?_
    show Steps p.tables e below (T55.setTop (mkF m 48 #[.val (.int p0), .val (.int p1), .val (.int p2), .val (.int p3), .unset, .unset, .unset, .unset, .unset, .unset, .unset, .unset] [(.ref b1)])) _
    refine XS.dup X55.here hx rfl (hb hby at_48) rfl rfl ?_
    show Steps p.tables e below (T55.setTop (mkF m 49 #[.val (.int p0), .val (.int p1), .val (.int p2), .val (.int p3), .unset, .unset, .unset, .unset, .unset, .unset, .unset, .unset] [(.ref b1), (.ref b1)])) _
    refine XS.bipush X55.here hx rfl (hb hby at_49) ?_
    show Steps p.tables e below (T55.setTop (mkF m 51 #[.val (.int p0), .val (.int p1), .val (.int p2), .val (.int p3), .unset, .unset, .unset, .unset, .unset, .unset, .unset, .unset] [(.int (7 : Int32)), (.ref b1), (.ref b1)])) _
    refine st58 _ ?_
    show Steps p.tables e below (T58.setTop (mkF m 54 #[.val (.int p0), .val (.int p1), .val (.int p2), .val (.int p3), .unset, .unset, .unset, .unset, .unset, .unset, .unset, .unset] [(.ref (A 7)), (.int (7 : Int32)), (.ref b1), (.ref b1)])) _
    refine st68 _ ?_
    show Steps p.tables e below (T68.setTop (mkF m 55 #[.val (.int p0), .val (.int p1), .val (.int p2), .val (.int p3), .unset, .unset, .unset, .unset, .unset, .unset, .unset, .unset] [(.ref b1)])) _
    refine XS.dup X68.here hx rfl (hb hby at_55) rfl rfl ?_
    show Steps p.tables e below (T68.setTop (mkF m 56 #[.val (.int p0), .val (.int p1), .val (.int p2), .val (.int p3), .unset, .unset, .unset, .unset, .unset, .unset, .unset, .unset] [(.ref b1), (.ref b1)])) _
    refine XS.bipush X68.here hx rfl (hb hby at_56) ?_
    show Steps p.tables e below (T68.setTop (mkF m 58 #[.val (.int p0), .val (.int p1), .val (.int p2), .val (.int p3), .unset, .unset, .unset, .unset, .unset, .unset, .unset, .unset] [(.int (8 : Int32)), (.ref b1), (.ref b1)])) _
    refine st69 _ ?_
    show Steps p.tables e below (T69.setTop (mkF m 61 #[.val (.int p0), .val (.int p1), .val (.int p2), .val (.int p3), .unset, .unset, .unset, .unset, .unset, .unset, .unset, .unset] [(.ref (A 8)), (.int (8 : Int32)), (.ref b1), (.ref b1)])) _
    refine st80 _ ?_
    show Steps p.tables e below (T80.setTop (mkF m 62 #[.val (.int p0), .val (.int p1), .val (.int p2), .val (.int p3), .unset, .unset, .unset, .unset, .unset, .unset, .unset, .unset] [(.ref b1)])) _
    refine XS.dup X80.here hx rfl (hb hby at_62) rfl rfl ?_
    show Steps p.tables e below (T80.setTop (mkF m 63 #[.val (.int p0), .val (.int p1), .val (.int p2), .val (.int p3), .unset, .unset, .unset, .unset, .unset, .unset, .unset, .unset] [(.ref b1), (.ref b1)])) _
    refine XS.bipush X80.here hx rfl (hb hby at_63) ?_
    show Steps p.tables e below (T80.setTop (mkF m 65 #[.val (.int p0), .val (.int p1), .val (.int p2), .val (.int p3), .unset, .unset, .unset, .unset, .unset, .unset, .unset, .unset] [(.int (9 : Int32)), (.ref b1), (.ref b1)])) _
    refine st83 _ ?_
    show Steps p.tables e below (T83.setTop (mkF m 68 #[.val (.int p0), .val (.int p1), .val (.int p2), .val (.int p3), .unset, .unset, .unset, .unset, .unset, .unset, .unset, .unset] [(.ref (A 9)), (.int (9 : Int32)), (.ref b1), (.ref b1)])) _
    refine st95 _ ?_
    show Steps p.tables e below (T95.setTop (mkF m 69 #[.val (.int p0), .val (.int p1), .val (.int p2), .val (.int p3), .unset, .unset, .unset, .unset, .unset, .unset, .unset, .unset] [(.ref b1)])) _
    refine XS.dup X95.here hx rfl (hb hby at_69) rfl rfl ?_
    show Steps p.tables e below (T95.setTop (mkF m 70 #[.val (.int p0), .val (.int p1), .val (.int p2), .val (.int p3), .unset, .unset, .unset, .unset, .unset, .unset, .unset, .unset] [(.ref b1), (.ref b1)])) _
    refine XS.bipush X95.here hx rfl (hb hby at_70) ?_
    show Steps p.tables e below (T95.setTop (mkF m 72 #[.val (.int p0), .val (.int p1), .val (.int p2), .val (.int p3), .unset, .unset, .unset, .unset, .unset, .unset, .unset, .unset] [(.int (10 : Int32)), (.ref b1), (.ref b1)])) _
    refine st96 _ ?_
    show Steps p.tables e below (T96.setTop (mkF m 75 #[.val (.int p0), .val (.int p1), .val (.int p2), .val (.int p3), .unset, .unset, .unset, .unset, .unset, .unset, .unset, .unset] [(.ref (A 10)), (.int (10 : Int32)), (.ref b1), (.ref b1)])) _
    refine st109 _ ?_
    show Steps p.tables e below (T109.setTop (mkF m 76 #[.val (.int p0), .val (.int p1), .val (.int p2), .val (.int p3), .unset, .unset, .unset, .unset, .unset, .unset, .unset, .unset] [(.ref b1)])) _
    refine XS.dup X109.here hx rfl (hb hby at_76) rfl rfl ?_
    show Steps p.tables e below (T109.setTop (mkF m 77 #[.val (.int p0), .val (.int p1), .val (.int p2), .val (.int p3), .unset, .unset, .unset, .unset, .unset, .unset, .unset, .unset] [(.ref b1), (.ref b1)])) _
    refine XS.bipush X109.here hx rfl (hb hby at_77) ?_
    show Steps p.tables e below (T109.setTop (mkF m 79 #[.val (.int p0), .val (.int p1), .val (.int p2), .val (.int p3), .unset, .unset, .unset, .unset, .unset, .unset, .unset, .unset] [(.int (11 : Int32)), (.ref b1), (.ref b1)])) _
    refine st112 _ ?_
    show Steps p.tables e below (T112.setTop (mkF m 82 #[.val (.int p0), .val (.int p1), .val (.int p2), .val (.int p3), .unset, .unset, .unset, .unset, .unset, .unset, .unset, .unset] [(.ref (A 11)), (.int (11 : Int32)), (.ref b1), (.ref b1)])) _
    refine st126 _ ?_
    show Steps p.tables e below (T126.setTop (mkF m 83 #[.val (.int p0), .val (.int p1), .val (.int p2), .val (.int p3), .unset, .unset, .unset, .unset, .unset, .unset, .unset, .unset] [(.ref b1)])) _
    refine XS.dup X126.here hx rfl (hb hby at_83) rfl rfl ?_
    show Steps p.tables e below (T126.setTop (mkF m 84 #[.val (.int p0), .val (.int p1), .val (.int p2), .val (.int p3), .unset, .unset, .unset, .unset, .unset, .unset, .unset, .unset] [(.ref b1), (.ref b1)])) _
    refine XS.bipush X126.here hx rfl (hb hby at_84) ?_
    show Steps p.tables e below (T126.setTop (mkF m 86 #[.val (.int p0), .val (.int p1), .val (.int p2), .val (.int p3), .unset, .unset, .unset, .unset, .unset, .unset, .unset, .unset] [(.int (12 : Int32)), (.ref b1), (.ref b1)])) _
    refine st127 _ ?_
    show Steps p.tables e below (T127.setTop (mkF m 89 #[.val (.int p0), .val (.int p1), .val (.int p2), .val (.int p3), .unset, .unset, .unset, .unset, .unset, .unset, .unset, .unset] [(.ref (A 12)), (.int (12 : Int32)), (.ref b1), (.ref b1)])) _
    refine st142 _ ?_
    show Steps p.tables e below (T142.setTop (mkF m 90 #[.val (.int p0), .val (.int p1), .val (.int p2), .val (.int p3), .unset, .unset, .unset, .unset, .unset, .unset, .unset, .unset] [(.ref b1)])) _
    refine XS.dup X142.here hx rfl (hb hby at_90) rfl rfl ?_
    show Steps p.tables e below (T142.setTop (mkF m 91 #[.val (.int p0), .val (.int p1), .val (.int p2), .val (.int p3), .unset, .unset, .unset, .unset, .unset, .unset, .unset, .unset] [(.ref b1), (.ref b1)])) _
    refine XS.bipush X142.here hx rfl (hb hby at_91) ?_
    show Steps p.tables e below (T142.setTop (mkF m 93 #[.val (.int p0), .val (.int p1), .val (.int p2), .val (.int p3), .unset, .unset, .unset, .unset, .unset, .unset, .unset, .unset] [(.int (13 : Int32)), (.ref b1), (.ref b1)])) _
    refine st145 _ ?_
    show Steps p.tables e below (T145.setTop (mkF m 96 #[.val (.int p0), .val (.int p1), .val (.int p2), .val (.int p3), .unset, .unset, .unset, .unset, .unset, .unset, .unset, .unset] [(.ref (A 13)), (.int (13 : Int32)), (.ref b1), (.ref b1)])) _
    refine st161 _ ?_
    show Steps p.tables e below (T161.setTop (mkF m 97 #[.val (.int p0), .val (.int p1), .val (.int p2), .val (.int p3), .unset, .unset, .unset, .unset, .unset, .unset, .unset, .unset] [(.ref b1)])) _
    refine XS.dup X161.here hx rfl (hb hby at_97) rfl rfl ?_
    show Steps p.tables e below (T161.setTop (mkF m 98 #[.val (.int p0), .val (.int p1), .val (.int p2), .val (.int p3), .unset, .unset, .unset, .unset, .unset, .unset, .unset, .unset] [(.ref b1), (.ref b1)])) _
    refine XS.bipush X161.here hx rfl (hb hby at_98) ?_
    show Steps p.tables e below (T161.setTop (mkF m 100 #[.val (.int p0), .val (.int p1), .val (.int p2), .val (.int p3), .unset, .unset, .unset, .unset, .unset, .unset, .unset, .unset] [(.int (14 : Int32)), (.ref b1), (.ref b1)])) _
    refine st162 _ ?_
    show Steps p.tables e below (T162.setTop (mkF m 103 #[.val (.int p0), .val (.int p1), .val (.int p2), .val (.int p3), .unset, .unset, .unset, .unset, .unset, .unset, .unset, .unset] [(.ref (A 14)), (.int (14 : Int32)), (.ref b1), (.ref b1)])) _
    refine st179 _ ?_
    show Steps p.tables e below (T179.setTop (mkF m 104 #[.val (.int p0), .val (.int p1), .val (.int p2), .val (.int p3), .unset, .unset, .unset, .unset, .unset, .unset, .unset, .unset] [(.ref b1)])) _
    refine XS.dup X179.here hx rfl (hb hby at_104) rfl rfl ?_
    show Steps p.tables e below (T179.setTop (mkF m 105 #[.val (.int p0), .val (.int p1), .val (.int p2), .val (.int p3), .unset, .unset, .unset, .unset, .unset, .unset, .unset, .unset] [(.ref b1), (.ref b1)])) _
    refine XS.bipush X179.here hx rfl (hb hby at_105) ?_
    show Steps p.tables e below (T179.setTop (mkF m 107 #[.val (.int p0), .val (.int p1), .val (.int p2), .val (.int p3), .unset, .unset, .unset, .unset, .unset, .unset, .unset, .unset] [(.int (15 : Int32)), (.ref b1), (.ref b1)])) _
    refine st182 _ ?_
    show Steps p.tables e below (T182.setTop (mkF m 110 #[.val (.int p0), .val (.int p1), .val (.int p2), .val (.int p3), .unset, .unset, .unset, .unset, .unset, .unset, .unset, .unset] [(.ref (A 15)), (.int (15 : Int32)), (.ref b1), (.ref b1)])) _
    refine st200 _ ?_
    show Steps p.tables e below (T200.setTop (mkF m 111 #[.val (.int p0), .val (.int p1), .val (.int p2), .val (.int p3), .unset, .unset, .unset, .unset, .unset, .unset, .unset, .unset] [(.ref b1)])) _
    refine XS.dup X200.here hx rfl (hb hby at_111) rfl rfl ?_
    show Steps p.tables e below (T200.setTop (mkF m 112 #[.val (.int p0), .val (.int p1), .val (.int p2), .val (.int p3), .unset, .unset, .unset, .unset, .unset, .unset, .unset, .unset] [(.ref b1), (.ref b1)])) _
    refine XS.bipush X200.here hx rfl (hb hby at_112) ?_
    show Steps p.tables e below (T200.setTop (mkF m 114 #[.val (.int p0), .val (.int p1), .val (.int p2), .val (.int p3), .unset, .unset, .unset, .unset, .unset, .unset, .unset, .unset] [(.int (16 : Int32)), (.ref b1), (.ref b1)])) _
    refine st201 _ ?_
    show Steps p.tables e below (T201.setTop (mkF m 117 #[.val (.int p0), .val (.int p1), .val (.int p2), .val (.int p3), .unset, .unset, .unset, .unset, .unset, .unset, .unset, .unset] [(.ref (A 16)), (.int (16 : Int32)), (.ref b1), (.ref b1)])) _
    refine st220 _ ?_
    show Steps p.tables e below (T220.setTop (mkF m 118 #[.val (.int p0), .val (.int p1), .val (.int p2), .val (.int p3), .unset, .unset, .unset, .unset, .unset, .unset, .unset, .unset] [(.ref b1)])) _
    refine XS.dup X220.here hx rfl (hb hby at_118) rfl rfl ?_
    show Steps p.tables e below (T220.setTop (mkF m 119 #[.val (.int p0), .val (.int p1), .val (.int p2), .val (.int p3), .unset, .unset, .unset, .unset, .unset, .unset, .unset, .unset] [(.ref b1), (.ref b1)])) _
    refine XS.bipush X220.here hx rfl (hb hby at_119) ?_
    show Steps p.tables e below (T220.setTop (mkF m 121 #[.val (.int p0), .val (.int p1), .val (.int p2), .val (.int p3), .unset, .unset, .unset, .unset, .unset, .unset, .unset, .unset] [(.int (17 : Int32)), (.ref b1), (.ref b1)])) _
    refine st223 _ ?_
    show Steps p.tables e below (T223.setTop (mkF m 124 #[.val (.int p0), .val (.int p1), .val (.int p2), .val (.int p3), .unset, .unset, .unset, .unset, .unset, .unset, .unset, .unset] [(.ref (A 17)), (.int (17 : Int32)), (.ref b1), (.ref b1)])) _
    refine st243 _ ?_
    show Steps p.tables e below (T243.setTop (mkF m 125 #[.val (.int p0), .val (.int p1), .val (.int p2), .val (.int p3), .unset, .unset, .unset, .unset, .unset, .unset, .unset, .unset] [(.ref b1)])) _
    refine XS.dup X243.here hx rfl (hb hby at_125) rfl rfl ?_
    show Steps p.tables e below (T243.setTop (mkF m 126 #[.val (.int p0), .val (.int p1), .val (.int p2), .val (.int p3), .unset, .unset, .unset, .unset, .unset, .unset, .unset, .unset] [(.ref b1), (.ref b1)])) _
    refine XS.bipush X243.here hx rfl (hb hby at_126) ?_
    show Steps p.tables e below (T243.setTop (mkF m 128 #[.val (.int p0), .val (.int p1), .val (.int p2), .val (.int p3), .unset, .unset, .unset, .unset, .unset, .unset, .unset, .unset] [(.int (18 : Int32)), (.ref b1), (.ref b1)])) _
    refine st244 _ ?_
    show Steps p.tables e below (T244.setTop (mkF m 131 #[.val (.int p0), .val (.int p1), .val (.int p2), .val (.int p3), .unset, .unset, .unset, .unset, .unset, .unset, .unset, .unset] [(.ref (A 18)), (.int (18 : Int32)), (.ref b1), (.ref b1)])) _
    refine st265 _ ?_
    show Steps p.tables e below (T265.setTop (mkF m 132 #[.val (.int p0), .val (.int p1), .val (.int p2), .val (.int p3), .unset, .unset, .unset, .unset, .unset, .unset, .unset, .unset] [(.ref b1)])) _
    refine XS.dup X265.here hx rfl (hb hby at_132) rfl rfl ?_
    show Steps p.tables e below (T265.setTop (mkF m 133 #[.val (.int p0), .val (.int p1), .val (.int p2), .val (.int p3), .unset, .unset, .unset, .unset, .unset, .unset, .unset, .unset] [(.ref b1), (.ref b1)])) _
    refine XS.bipush X265.here hx rfl (hb hby at_133) ?_
    show Steps p.tables e below (T265.setTop (mkF m 135 #[.val (.int p0), .val (.int p1), .val (.int p2), .val (.int p3), .unset, .unset, .unset, .unset, .unset, .unset, .unset, .unset] [(.int (19 : Int32)), (.ref b1), (.ref b1)])) _
    refine st268 _ ?_
    show Steps p.tables e below (T268.setTop (mkF m 138 #[.val (.int p0), .val (.int p1), .val (.int p2), .val (.int p3), .unset, .unset, .unset, .unset, .unset, .unset, .unset, .unset] [(.ref (A 19)), (.int (19 : Int32)), (.ref b1), (.ref b1)])) _
    refine st290 _ ?_
    show Steps p.tables e below (T290.setTop (mkF m 139 #[.val (.int p0), .val (.int p1), .val (.int p2), .val (.int p3), .unset, .unset, .unset, .unset, .unset, .unset, .unset, .unset] [(.ref b1)])) _
    refine XS.astore X290.here hx rfl (hb hby at_139) rfl rfl (l' := #[.val (.int p0), .val (.int p1), .val (.int p2), .val (.int p3), .val (.ref b1), .unset, .unset, .unset, .unset, .unset, .unset, .unset]) rfl ?_
    show Steps p.tables e below (T290.setTop (mkF m 141 #[.val (.int p0), .val (.int p1), .val (.int p2), .val (.int p3), .val (.ref b1), .unset, .unset, .unset, .unset, .unset, .unset, .unset] [])) _
    refine XS.iloadN X290.here hx rfl (hb hby at_141) rfl ?_
    show Steps p.tables e below (T290.setTop (mkF m 142 #[.val (.int p0), .val (.int p1), .val (.int p2), .val (.int p3), .val (.ref b1), .unset, .unset, .unset, .unset, .unset, .unset, .unset] [(.int p0)])) _
    refine X290.ldcInt hx hown (mvT hZ (hw _ (List.mem_of_getElem? (i := 44) rfl))) (g := (mkF m 142 #[.val (.int p0), .val (.int p1), .val (.int p2), .val (.int p3), .val (.ref b1), .unset, .unset, .unset, .unset, .unset, .unset, .unset] [(.int p0)])) rfl (hb hby at_142) _ ?_
    show Steps p.tables e below (T290.setTop (mkF m 144 #[.val (.int p0), .val (.int p1), .val (.int p2), .val (.int p3), .val (.ref b1), .unset, .unset, .unset, .unset, .unset, .unset, .unset] [(.int (2147483647 : Int32)), (.int p0)])) _
    refine XS.iand X290.here hx rfl (hb hby at_144) rfl ?_
    show Steps p.tables e below (T290.setTop (mkF m 145 #[.val (.int p0), .val (.int p1), .val (.int p2), .val (.int p3), .val (.ref b1), .unset, .unset, .unset, .unset, .unset, .unset, .unset] [(.int (p0 &&& (2147483647 : Int32)))])) _
    refine XS.bipush X290.here hx rfl (hb hby at_145) ?_
    show Steps p.tables e below (T290.setTop (mkF m 147 #[.val (.int p0), .val (.int p1), .val (.int p2), .val (.int p3), .val (.ref b1), .unset, .unset, .unset, .unset, .unset, .unset, .unset] [(.int (20 : Int32)), (.int (p0 &&& (2147483647 : Int32)))])) _
    refine Jvm.RoadKit.iremM X290 hx rfl (hb hby at_147) rfl hnz147_291 ?_
    show Steps p.tables e below (T290.setTop (mkF m 148 #[.val (.int p0), .val (.int p1), .val (.int p2), .val (.int p3), .val (.ref b1), .unset, .unset, .unset, .unset, .unset, .unset, .unset] [(.int ((p0 &&& (2147483647 : Int32)) % (20 : Int32)))])) _
    rw [← ev292]
    show Steps p.tables e below (T290.setTop (mkF m 148 #[.val (.int p0), .val (.int p1), .val (.int p2), .val (.int p3), .val (.ref b1), .unset, .unset, .unset, .unset, .unset, .unset, .unset] [(.int v292)])) _
    refine XS.istore X290.here hx rfl (hb hby at_148) rfl (l' := #[.val (.int p0), .val (.int p1), .val (.int p2), .val (.int p3), .val (.ref b1), .val (.int v292), .unset, .unset, .unset, .unset, .unset, .unset]) rfl ?_
    show Steps p.tables e below (T290.setTop (mkF m 150 #[.val (.int p0), .val (.int p1), .val (.int p2), .val (.int p3), .val (.ref b1), .val (.int v292), .unset, .unset, .unset, .unset, .unset, .unset] [])) _
    refine XS.iloadN X290.here hx rfl (hb hby at_150) rfl ?_
    show Steps p.tables e below (T290.setTop (mkF m 151 #[.val (.int p0), .val (.int p1), .val (.int p2), .val (.int p3), .val (.ref b1), .val (.int v292), .unset, .unset, .unset, .unset, .unset, .unset] [(.int p1)])) _
    refine XS.sipush X290.here hx rfl (hb hby at_151) ?_
    show Steps p.tables e below (T290.setTop (mkF m 154 #[.val (.int p0), .val (.int p1), .val (.int p2), .val (.int p3), .val (.ref b1), .val (.int v292), .unset, .unset, .unset, .unset, .unset, .unset] [(.int (255 : Int32)), (.int p1)])) _
    refine XS.iand X290.here hx rfl (hb hby at_154) rfl ?_
    show Steps p.tables e below (T290.setTop (mkF m 155 #[.val (.int p0), .val (.int p1), .val (.int p2), .val (.int p3), .val (.ref b1), .val (.int v292), .unset, .unset, .unset, .unset, .unset, .unset] [(.int (p1 &&& (255 : Int32)))])) _
    refine XS.i2c X290.here hx rfl (hb hby at_155) rfl ?_
    show Steps p.tables e below (T290.setTop (mkF m 156 #[.val (.int p0), .val (.int p1), .val (.int p2), .val (.int p3), .val (.ref b1), .val (.int v292), .unset, .unset, .unset, .unset, .unset, .unset] [(.int ((p1 &&& (255 : Int32)).toUInt32.toUInt16.toUInt32.toInt32))])) _
    refine XS.istore X290.here hx rfl (hb hby at_156) rfl (l' := #[.val (.int p0), .val (.int p1), .val (.int p2), .val (.int p3), .val (.ref b1), .val (.int v292), .val (.int ((p1 &&& (255 : Int32)).toUInt32.toUInt16.toUInt32.toInt32)), .unset, .unset, .unset, .unset, .unset]) rfl ?_
    show Steps p.tables e below (T290.setTop (mkF m 158 #[.val (.int p0), .val (.int p1), .val (.int p2), .val (.int p3), .val (.ref b1), .val (.int v292), .val (.int ((p1 &&& (255 : Int32)).toUInt32.toUInt16.toUInt32.toInt32)), .unset, .unset, .unset, .unset, .unset] [])) _
    refine XS.iloadN X290.here hx rfl (hb hby at_158) rfl ?_
    show Steps p.tables e below (T290.setTop (mkF m 159 #[.val (.int p0), .val (.int p1), .val (.int p2), .val (.int p3), .val (.ref b1), .val (.int v292), .val (.int ((p1 &&& (255 : Int32)).toUInt32.toUInt16.toUInt32.toInt32)), .unset, .unset, .unset, .unset, .unset] [(.int p2)])) _
    refine XS.sipush X290.here hx rfl (hb hby at_159) ?_
    show Steps p.tables e below (T290.setTop (mkF m 162 #[.val (.int p0), .val (.int p1), .val (.int p2), .val (.int p3), .val (.ref b1), .val (.int v292), .val (.int ((p1 &&& (255 : Int32)).toUInt32.toUInt16.toUInt32.toInt32)), .unset, .unset, .unset, .unset, .unset] [(.int (255 : Int32)), (.int p2)])) _
    refine XS.iand X290.here hx rfl (hb hby at_162) rfl ?_
    show Steps p.tables e below (T290.setTop (mkF m 163 #[.val (.int p0), .val (.int p1), .val (.int p2), .val (.int p3), .val (.ref b1), .val (.int v292), .val (.int ((p1 &&& (255 : Int32)).toUInt32.toUInt16.toUInt32.toInt32)), .unset, .unset, .unset, .unset, .unset] [(.int (p2 &&& (255 : Int32)))])) _
    refine XS.i2c X290.here hx rfl (hb hby at_163) rfl ?_
    show Steps p.tables e below (T290.setTop (mkF m 164 #[.val (.int p0), .val (.int p1), .val (.int p2), .val (.int p3), .val (.ref b1), .val (.int v292), .val (.int ((p1 &&& (255 : Int32)).toUInt32.toUInt16.toUInt32.toInt32)), .unset, .unset, .unset, .unset, .unset] [(.int ((p2 &&& (255 : Int32)).toUInt32.toUInt16.toUInt32.toInt32))])) _
    refine XS.istore X290.here hx rfl (hb hby at_164) rfl (l' := #[.val (.int p0), .val (.int p1), .val (.int p2), .val (.int p3), .val (.ref b1), .val (.int v292), .val (.int ((p1 &&& (255 : Int32)).toUInt32.toUInt16.toUInt32.toInt32)), .val (.int ((p2 &&& (255 : Int32)).toUInt32.toUInt16.toUInt32.toInt32)), .unset, .unset, .unset, .unset]) rfl ?_
    show Steps p.tables e below (T290.setTop (mkF m 166 #[.val (.int p0), .val (.int p1), .val (.int p2), .val (.int p3), .val (.ref b1), .val (.int v292), .val (.int ((p1 &&& (255 : Int32)).toUInt32.toUInt16.toUInt32.toInt32)), .val (.int ((p2 &&& (255 : Int32)).toUInt32.toUInt16.toUInt32.toInt32)), .unset, .unset, .unset, .unset] [])) _
    refine XS.iloadN X290.here hx rfl (hb hby at_166) rfl ?_
    refine XS.iconst X290.here hx rfl (hb hby at_167) ?_
    refine XS.iand X290.here hx rfl (hb hby at_168) rfl ?_
    refine XS.istore X290.here hx rfl (hb hby at_169) rfl (l' := #[.val (.int p0), .val (.int p1), .val (.int p2), .val (.int p3), .val (.ref b1), .val (.int v292), .val (.int ((p1 &&& (255 : Int32)).toUInt32.toUInt16.toUInt32.toInt32)), .val (.int ((p2 &&& (255 : Int32)).toUInt32.toUInt16.toUInt32.toInt32)), .val (.int (p3 &&& (3 : Int32))), .unset, .unset, .unset]) rfl ?_
    show Steps p.tables e below (T290.setTop (mkF m 171 #[.val (.int p0), .val (.int p1), .val (.int p2), .val (.int p3), .val (.ref b1), .val (.int v292), .val (.int ((p1 &&& (255 : Int32)).toUInt32.toUInt16.toUInt32.toInt32)), .val (.int ((p2 &&& (255 : Int32)).toUInt32.toUInt16.toUInt32.toInt32)), .val (.int (p3 &&& (3 : Int32))), .unset, .unset, .unset] [])) _
    refine XS.iload X290.here hx rfl (hb hby at_171) rfl ?_
    exact kt
  refine Done.of ?_ K293
  by_cases hc173_294 : (p3 &&& (3 : Int32)) = (0 : Int32)
  · have K : ∀ target, Steps p.tables e below (T290.setTop (mkF m 176 #[.val (.int p0), .val (.int p1), .val (.int p2), .val (.int p3), .val (.ref b1), .val (.int v292), .val (.int ((p1 &&& (255 : Int32)).toUInt32.toUInt16.toUInt32.toInt32)), .val (.int ((p2 &&& (255 : Int32)).toUInt32.toUInt16.toUInt32.toInt32)), .val (.int (p3 &&& (3 : Int32))), .unset, .unset, .unset] [])) target → Steps p.tables e below (T290.setTop (mkF m 173 #[.val (.int p0), .val (.int p1), .val (.int p2), .val (.int p3), .val (.ref b1), .val (.int v292), .val (.int ((p1 &&& (255 : Int32)).toUInt32.toUInt16.toUInt32.toInt32)), .val (.int ((p2 &&& (255 : Int32)).toUInt32.toUInt16.toUInt32.toInt32)), .val (.int (p3 &&& (3 : Int32))), .unset, .unset, .unset] [(.int (p3 &&& (3 : Int32)))])) target := by
      intro target kt
      refine XS.ifNo X290.here hx rfl (hb hby at_173) rfl ((if0 _ _).trans (teq hc173_294).2) ?_
      exact kt
    refine Done.of ?_ K
    obtain ⟨T295, h295, X295, e295, E295, A295, D295, -, st295⟩ := newO X290 hx hZ hown (hw _ (List.mem_of_getElem? (i := 93) rfl)) (hw _ (List.mem_of_getElem? (i := 55) rfl)) (hw _ (List.mem_of_getElem? (i := 47) rfl)) e290 (g := (mkF m 176 #[.val (.int p0), .val (.int p1), .val (.int p2), .val (.int p3), .val (.ref b1), .val (.int v292), .val (.int ((p1 &&& (255 : Int32)).toUInt32.toUInt16.toUInt32.toInt32)), .val (.int ((p2 &&& (255 : Int32)).toUInt32.toUInt16.toUInt32.toInt32)), .val (.int (p3 &&& (3 : Int32))), .unset, .unset, .unset] [])) rfl (hb hby at_176) (by decide) (by decide)
    obtain ⟨b295, g295⟩ : ∃ z, z = h290.size := ⟨_, rfl⟩
    rw [← g295] at A295 D295 st295
    have gnb295 : n0 ≤ b295 := Nat.le_trans Z290 (Nat.le_of_eq g295.symm)
    have Z295 : n0 ≤ h295.size := Nat.le_trans Z290 E295.1
    have cy296 := ((EA 0 (by decide)).ext E1)
    have cy297 := (cy296.wr W4)
    have cy298 := (cy297.wr W11)
    have cy299 := (cy298.wr W17)
    have cy300 := (cy299.wr W26)
    have cy301 := (cy300.wr W34)
    have cy302 := (cy301.wr W45)
    have cy303 := (cy302.wr W55)
    have cy304 := (cy303.wr W68)
    have cy305 := (cy304.wr W80)
    have cy306 := (cy305.wr W95)
    have cy307 := (cy306.wr W109)
    have cy308 := (cy307.wr W126)
    have cy309 := (cy308.wr W142)
    have cy310 := (cy309.wr W161)
    have cy311 := (cy310.wr W179)
    have cy312 := (cy311.wr W200)
    have cy313 := (cy312.wr W220)
    have cy314 := (cy313.wr W243)
    have cy315 := (cy314.wr W265)
    have cy316 := (cy315.wr W290)
    have ne_295_1 : (A 0) ≠ b295 := Nat.ne_of_lt (Nat.lt_of_lt_of_le cy316.lt (Nat.le_of_eq g295.symm))
    have cy317 := (cy10.wr W11)
    have cy318 := (cy317.wr W17)
    have cy319 := (cy318.wr W26)
    have cy320 := (cy319.wr W34)
    have cy321 := (cy320.wr W45)
    have cy322 := (cy321.wr W55)
    have cy323 := (cy322.wr W68)
    have cy324 := (cy323.wr W80)
    have cy325 := (cy324.wr W95)
    have cy326 := (cy325.wr W109)
    have cy327 := (cy326.wr W126)
    have cy328 := (cy327.wr W142)
    have cy329 := (cy328.wr W161)
    have cy330 := (cy329.wr W179)
    have cy331 := (cy330.wr W200)
    have cy332 := (cy331.wr W220)
    have cy333 := (cy332.wr W243)
    have cy334 := (cy333.wr W265)
    have cy335 := (cy334.wr W290)
    have ne_295_2 : (A 1) ≠ b295 := Nat.ne_of_lt (Nat.lt_of_lt_of_le cy335.lt (Nat.le_of_eq g295.symm))
    have cy336 := (cy16.wr W17)
    have cy337 := (cy336.wr W26)
    have cy338 := (cy337.wr W34)
    have cy339 := (cy338.wr W45)
    have cy340 := (cy339.wr W55)
    have cy341 := (cy340.wr W68)
    have cy342 := (cy341.wr W80)
    have cy343 := (cy342.wr W95)
    have cy344 := (cy343.wr W109)
    have cy345 := (cy344.wr W126)
    have cy346 := (cy345.wr W142)
    have cy347 := (cy346.wr W161)
    have cy348 := (cy347.wr W179)
    have cy349 := (cy348.wr W200)
    have cy350 := (cy349.wr W220)
    have cy351 := (cy350.wr W243)
    have cy352 := (cy351.wr W265)
    have cy353 := (cy352.wr W290)
    have ne_295_3 : (A 2) ≠ b295 := Nat.ne_of_lt (Nat.lt_of_lt_of_le cy353.lt (Nat.le_of_eq g295.symm))
    have cy354 := (cy25.wr W26)
    have cy355 := (cy354.wr W34)
    have cy356 := (cy355.wr W45)
    have cy357 := (cy356.wr W55)
    have cy358 := (cy357.wr W68)
    have cy359 := (cy358.wr W80)
    have cy360 := (cy359.wr W95)
    have cy361 := (cy360.wr W109)
    have cy362 := (cy361.wr W126)
    have cy363 := (cy362.wr W142)
    have cy364 := (cy363.wr W161)
    have cy365 := (cy364.wr W179)
    have cy366 := (cy365.wr W200)
    have cy367 := (cy366.wr W220)
    have cy368 := (cy367.wr W243)
    have cy369 := (cy368.wr W265)
    have cy370 := (cy369.wr W290)
    have ne_295_4 : (A 3) ≠ b295 := Nat.ne_of_lt (Nat.lt_of_lt_of_le cy370.lt (Nat.le_of_eq g295.symm))
    have cy371 := (cy33.wr W34)
    have cy372 := (cy371.wr W45)
    have cy373 := (cy372.wr W55)
    have cy374 := (cy373.wr W68)
    have cy375 := (cy374.wr W80)
    have cy376 := (cy375.wr W95)
    have cy377 := (cy376.wr W109)
    have cy378 := (cy377.wr W126)
    have cy379 := (cy378.wr W142)
    have cy380 := (cy379.wr W161)
    have cy381 := (cy380.wr W179)
    have cy382 := (cy381.wr W200)
    have cy383 := (cy382.wr W220)
    have cy384 := (cy383.wr W243)
    have cy385 := (cy384.wr W265)
    have cy386 := (cy385.wr W290)
    have ne_295_5 : (A 4) ≠ b295 := Nat.ne_of_lt (Nat.lt_of_lt_of_le cy386.lt (Nat.le_of_eq g295.symm))
    have cy387 := (cy44.wr W45)
    have cy388 := (cy387.wr W55)
    have cy389 := (cy388.wr W68)
    have cy390 := (cy389.wr W80)
    have cy391 := (cy390.wr W95)
    have cy392 := (cy391.wr W109)
    have cy393 := (cy392.wr W126)
    have cy394 := (cy393.wr W142)
    have cy395 := (cy394.wr W161)
    have cy396 := (cy395.wr W179)
    have cy397 := (cy396.wr W200)
    have cy398 := (cy397.wr W220)
    have cy399 := (cy398.wr W243)
    have cy400 := (cy399.wr W265)
    have cy401 := (cy400.wr W290)
    have ne_295_6 : (A 5) ≠ b295 := Nat.ne_of_lt (Nat.lt_of_lt_of_le cy401.lt (Nat.le_of_eq g295.symm))
    have cy402 := (cy54.wr W55)
    have cy403 := (cy402.wr W68)
    have cy404 := (cy403.wr W80)
    have cy405 := (cy404.wr W95)
    have cy406 := (cy405.wr W109)
    have cy407 := (cy406.wr W126)
    have cy408 := (cy407.wr W142)
    have cy409 := (cy408.wr W161)
    have cy410 := (cy409.wr W179)
    have cy411 := (cy410.wr W200)
    have cy412 := (cy411.wr W220)
    have cy413 := (cy412.wr W243)
    have cy414 := (cy413.wr W265)
    have cy415 := (cy414.wr W290)
    have ne_295_7 : (A 6) ≠ b295 := Nat.ne_of_lt (Nat.lt_of_lt_of_le cy415.lt (Nat.le_of_eq g295.symm))
    have cy416 := (cy67.wr W68)
    have cy417 := (cy416.wr W80)
    have cy418 := (cy417.wr W95)
    have cy419 := (cy418.wr W109)
    have cy420 := (cy419.wr W126)
    have cy421 := (cy420.wr W142)
    have cy422 := (cy421.wr W161)
    have cy423 := (cy422.wr W179)
    have cy424 := (cy423.wr W200)
    have cy425 := (cy424.wr W220)
    have cy426 := (cy425.wr W243)
    have cy427 := (cy426.wr W265)
    have cy428 := (cy427.wr W290)
    have ne_295_8 : (A 7) ≠ b295 := Nat.ne_of_lt (Nat.lt_of_lt_of_le cy428.lt (Nat.le_of_eq g295.symm))
    have cy429 := (cy79.wr W80)
    have cy430 := (cy429.wr W95)
    have cy431 := (cy430.wr W109)
    have cy432 := (cy431.wr W126)
    have cy433 := (cy432.wr W142)
    have cy434 := (cy433.wr W161)
    have cy435 := (cy434.wr W179)
    have cy436 := (cy435.wr W200)
    have cy437 := (cy436.wr W220)
    have cy438 := (cy437.wr W243)
    have cy439 := (cy438.wr W265)
    have cy440 := (cy439.wr W290)
    have ne_295_9 : (A 8) ≠ b295 := Nat.ne_of_lt (Nat.lt_of_lt_of_le cy440.lt (Nat.le_of_eq g295.symm))
    have cy441 := (cy94.wr W95)
    have cy442 := (cy441.wr W109)
    have cy443 := (cy442.wr W126)
    have cy444 := (cy443.wr W142)
    have cy445 := (cy444.wr W161)
    have cy446 := (cy445.wr W179)
    have cy447 := (cy446.wr W200)
    have cy448 := (cy447.wr W220)
    have cy449 := (cy448.wr W243)
    have cy450 := (cy449.wr W265)
    have cy451 := (cy450.wr W290)
    have ne_295_10 : (A 9) ≠ b295 := Nat.ne_of_lt (Nat.lt_of_lt_of_le cy451.lt (Nat.le_of_eq g295.symm))
    have cy452 := (cy108.wr W109)
    have cy453 := (cy452.wr W126)
    have cy454 := (cy453.wr W142)
    have cy455 := (cy454.wr W161)
    have cy456 := (cy455.wr W179)
    have cy457 := (cy456.wr W200)
    have cy458 := (cy457.wr W220)
    have cy459 := (cy458.wr W243)
    have cy460 := (cy459.wr W265)
    have cy461 := (cy460.wr W290)
    have ne_295_11 : (A 10) ≠ b295 := Nat.ne_of_lt (Nat.lt_of_lt_of_le cy461.lt (Nat.le_of_eq g295.symm))
    have cy462 := (cy125.wr W126)
    have cy463 := (cy462.wr W142)
    have cy464 := (cy463.wr W161)
    have cy465 := (cy464.wr W179)
    have cy466 := (cy465.wr W200)
    have cy467 := (cy466.wr W220)
    have cy468 := (cy467.wr W243)
    have cy469 := (cy468.wr W265)
    have cy470 := (cy469.wr W290)
    have ne_295_12 : (A 11) ≠ b295 := Nat.ne_of_lt (Nat.lt_of_lt_of_le cy470.lt (Nat.le_of_eq g295.symm))
    have cy471 := (cy141.wr W142)
    have cy472 := (cy471.wr W161)
    have cy473 := (cy472.wr W179)
    have cy474 := (cy473.wr W200)
    have cy475 := (cy474.wr W220)
    have cy476 := (cy475.wr W243)
    have cy477 := (cy476.wr W265)
    have cy478 := (cy477.wr W290)
    have ne_295_13 : (A 12) ≠ b295 := Nat.ne_of_lt (Nat.lt_of_lt_of_le cy478.lt (Nat.le_of_eq g295.symm))
    have cy479 := (cy160.wr W161)
    have cy480 := (cy479.wr W179)
    have cy481 := (cy480.wr W200)
    have cy482 := (cy481.wr W220)
    have cy483 := (cy482.wr W243)
    have cy484 := (cy483.wr W265)
    have cy485 := (cy484.wr W290)
    have ne_295_14 : (A 13) ≠ b295 := Nat.ne_of_lt (Nat.lt_of_lt_of_le cy485.lt (Nat.le_of_eq g295.symm))
    have cy486 := (cy178.wr W179)
    have cy487 := (cy486.wr W200)
    have cy488 := (cy487.wr W220)
    have cy489 := (cy488.wr W243)
    have cy490 := (cy489.wr W265)
    have cy491 := (cy490.wr W290)
    have ne_295_15 : (A 14) ≠ b295 := Nat.ne_of_lt (Nat.lt_of_lt_of_le cy491.lt (Nat.le_of_eq g295.symm))
    have cy492 := (cy199.wr W200)
    have cy493 := (cy492.wr W220)
    have cy494 := (cy493.wr W243)
    have cy495 := (cy494.wr W265)
    have cy496 := (cy495.wr W290)
    have ne_295_16 : (A 15) ≠ b295 := Nat.ne_of_lt (Nat.lt_of_lt_of_le cy496.lt (Nat.le_of_eq g295.symm))
    have cy497 := (cy219.wr W220)
    have cy498 := (cy497.wr W243)
    have cy499 := (cy498.wr W265)
    have cy500 := (cy499.wr W290)
    have ne_295_17 : (A 16) ≠ b295 := Nat.ne_of_lt (Nat.lt_of_lt_of_le cy500.lt (Nat.le_of_eq g295.symm))
    have cy501 := (cy242.wr W243)
    have cy502 := (cy501.wr W265)
    have cy503 := (cy502.wr W290)
    have ne_295_18 : (A 17) ≠ b295 := Nat.ne_of_lt (Nat.lt_of_lt_of_le cy503.lt (Nat.le_of_eq g295.symm))
    have cy504 := (cy264.wr W265)
    have cy505 := (cy504.wr W290)
    have ne_295_19 : (A 18) ≠ b295 := Nat.ne_of_lt (Nat.lt_of_lt_of_le cy505.lt (Nat.le_of_eq g295.symm))
    have ne_295_20 : (A 19) ≠ b295 := Nat.ne_of_lt (Nat.lt_of_lt_of_le (cy289.wr W290).lt (Nat.le_of_eq g295.symm))
    have ne_295_21 : b1 ≠ b295 := Nat.ne_of_lt (Nat.lt_of_lt_of_le V290.lt (Nat.le_of_eq g295.symm))
    have F295_value : Fld Z h295 b295 "java/lang/String" "value" "[B" .null := D295 (Or.inr (hw _ (List.mem_of_getElem? (i := 68) rfl))) (ty := (.array .byte)) (by decide)
    have F295_coder : Fld Z h295 b295 "java/lang/String" "coder" "B" (.int (0 : Int32)) := D295 (Or.inr (hw _ (List.mem_of_getElem? (i := 70) rfl))) (ty := .byte) (by decide)
    obtain ⟨T506, h506, k506, X506, e506, E506, A506, st506⟩ := newP X295 hx hZ (hw _ (List.mem_of_getElem? (i := 94) rfl)) e295 (g := (mkF m 181 #[.val (.int p0), .val (.int p1), .val (.int p2), .val (.int p3), .val (.ref b1), .val (.int v292), .val (.int ((p1 &&& (255 : Int32)).toUInt32.toUInt16.toUInt32.toInt32)), .val (.int ((p2 &&& (255 : Int32)).toUInt32.toUInt16.toUInt32.toInt32)), .val (.int (p3 &&& (3 : Int32))), .unset, .unset, .unset] [(.int (0 : Int32)), (.ref b295), (.ref b295)])) rfl (hb hby at_181) rfl (by decide) (cap := 0) (by decide) (by decide) (by decide) (by decide)
    obtain ⟨b506, g506⟩ : ∃ z, z = h295.size := ⟨_, rfl⟩
    rw [← g506] at A506 st506
    have gnb506 : n0 ≤ b506 := Nat.le_trans Z295 (Nat.le_of_eq g506.symm)
    have Z506 : n0 ≤ h506.size := Nat.le_trans Z295 E506.1
    have ne_506_1 : (A 0) ≠ b506 := Nat.ne_of_lt (Nat.lt_of_lt_of_le (cy316.ext E295).lt (Nat.le_of_eq g506.symm))
    have ne_506_2 : (A 1) ≠ b506 := Nat.ne_of_lt (Nat.lt_of_lt_of_le (cy335.ext E295).lt (Nat.le_of_eq g506.symm))
    have ne_506_3 : (A 2) ≠ b506 := Nat.ne_of_lt (Nat.lt_of_lt_of_le (cy353.ext E295).lt (Nat.le_of_eq g506.symm))
    have ne_506_4 : (A 3) ≠ b506 := Nat.ne_of_lt (Nat.lt_of_lt_of_le (cy370.ext E295).lt (Nat.le_of_eq g506.symm))
    have ne_506_5 : (A 4) ≠ b506 := Nat.ne_of_lt (Nat.lt_of_lt_of_le (cy386.ext E295).lt (Nat.le_of_eq g506.symm))
    have ne_506_6 : (A 5) ≠ b506 := Nat.ne_of_lt (Nat.lt_of_lt_of_le (cy401.ext E295).lt (Nat.le_of_eq g506.symm))
    have ne_506_7 : (A 6) ≠ b506 := Nat.ne_of_lt (Nat.lt_of_lt_of_le (cy415.ext E295).lt (Nat.le_of_eq g506.symm))
    have ne_506_8 : (A 7) ≠ b506 := Nat.ne_of_lt (Nat.lt_of_lt_of_le (cy428.ext E295).lt (Nat.le_of_eq g506.symm))
    have ne_506_9 : (A 8) ≠ b506 := Nat.ne_of_lt (Nat.lt_of_lt_of_le (cy440.ext E295).lt (Nat.le_of_eq g506.symm))
    have ne_506_10 : (A 9) ≠ b506 := Nat.ne_of_lt (Nat.lt_of_lt_of_le (cy451.ext E295).lt (Nat.le_of_eq g506.symm))
    have ne_506_11 : (A 10) ≠ b506 := Nat.ne_of_lt (Nat.lt_of_lt_of_le (cy461.ext E295).lt (Nat.le_of_eq g506.symm))
    have ne_506_12 : (A 11) ≠ b506 := Nat.ne_of_lt (Nat.lt_of_lt_of_le (cy470.ext E295).lt (Nat.le_of_eq g506.symm))
    have ne_506_13 : (A 12) ≠ b506 := Nat.ne_of_lt (Nat.lt_of_lt_of_le (cy478.ext E295).lt (Nat.le_of_eq g506.symm))
    have ne_506_14 : (A 13) ≠ b506 := Nat.ne_of_lt (Nat.lt_of_lt_of_le (cy485.ext E295).lt (Nat.le_of_eq g506.symm))
    have ne_506_15 : (A 14) ≠ b506 := Nat.ne_of_lt (Nat.lt_of_lt_of_le (cy491.ext E295).lt (Nat.le_of_eq g506.symm))
    have ne_506_16 : (A 15) ≠ b506 := Nat.ne_of_lt (Nat.lt_of_lt_of_le (cy496.ext E295).lt (Nat.le_of_eq g506.symm))
    have ne_506_17 : (A 16) ≠ b506 := Nat.ne_of_lt (Nat.lt_of_lt_of_le (cy500.ext E295).lt (Nat.le_of_eq g506.symm))
    have ne_506_18 : (A 17) ≠ b506 := Nat.ne_of_lt (Nat.lt_of_lt_of_le (cy503.ext E295).lt (Nat.le_of_eq g506.symm))
    have ne_506_19 : (A 18) ≠ b506 := Nat.ne_of_lt (Nat.lt_of_lt_of_le (cy505.ext E295).lt (Nat.le_of_eq g506.symm))
    have cy507 := (cy289.wr W290)
    have cy508 := (cy507.ext E295)
    have ne_506_20 : (A 19) ≠ b506 := Nat.ne_of_lt (Nat.lt_of_lt_of_le cy508.lt (Nat.le_of_eq g506.symm))
    have ne_506_21 : b1 ≠ b506 := Nat.ne_of_lt (Nat.lt_of_lt_of_le (V290.ext E295).lt (Nat.le_of_eq g506.symm))
    have ne_506_22 : b295 ≠ b506 := Nat.ne_of_lt (Nat.lt_of_lt_of_le A295.lt (Nat.le_of_eq g506.symm))
    have V506 : Arv Z h506 b506 k506 .char (0 : Int32) [] (.int (0 : Int32)) := (Arv.new A506 (by decide)).pad (pad_rep [] (.int (0 : Int32)) 0)
    have cy510 := (own_OC_wr (own_OC_ext hOC E1) W4 gnb1)
    have cy511 := (own_OC_wr cy510 W11 gnb1)
    have cy512 := (own_OC_wr cy511 W17 gnb1)
    have cy513 := (own_OC_wr cy512 W26 gnb1)
    have cy514 := (own_OC_wr cy513 W34 gnb1)
    have cy515 := (own_OC_wr cy514 W45 gnb1)
    have cy516 := (own_OC_wr cy515 W55 gnb1)
    have cy517 := (own_OC_wr cy516 W68 gnb1)
    have cy518 := (own_OC_wr cy517 W80 gnb1)
    have cy519 := (own_OC_wr cy518 W95 gnb1)
    have cy520 := (own_OC_wr cy519 W109 gnb1)
    have cy521 := (own_OC_wr cy520 W126 gnb1)
    have cy522 := (own_OC_wr cy521 W142 gnb1)
    have cy523 := (own_OC_wr cy522 W161 gnb1)
    have cy524 := (own_OC_wr cy523 W179 gnb1)
    have cy525 := (own_OC_wr cy524 W200 gnb1)
    have cy526 := (own_OC_wr cy525 W220 gnb1)
    have cy527 := (own_OC_wr cy526 W243 gnb1)
    have cy528 := (own_OC_wr cy527 W265 gnb1)
    have cy529 := (own_OC_wr cy528 W290 gnb1)
    obtain ⟨_, _, ⟨T509, L509, k509, n509⟩, -, Xq509, hSq509, hgq509, ⟨Lc509, hQ509, l509, y509, z509⟩, st509⟩ := X506.specialBackS hx (y := (⟨"java/lang/String", "<init>", "([C)V"⟩ : MethodName)) rfl hown (mvT hZ (hw _ (List.mem_of_getElem? (i := 95) rfl))) (mvT hZ (hw _ (List.mem_of_getElem? (i := 96) rfl))) (mvT hZ (hw _ (List.mem_of_getElem? (i := 97) rfl))) (by decide) (own_backW (W := 1) (rm9e l Z a0 hw [] b295 b506 k506 _ h506 n0 Z506 (A295.ext E506) gnb295 (F295_value.ext E506) (F295_coder.ext E506) V506) hZ (hw _ (List.mem_of_getElem? (i := 97) rfl)) (hw _ (List.mem_of_getElem? (i := 47) rfl)) (by decide) (by decide) hEW (own_OC_ext (own_OC_ext cy529 E295) E506)) (g := (mkF m 183 #[.val (.int p0), .val (.int p1), .val (.int p2), .val (.int p3), .val (.ref b1), .val (.int v292), .val (.int ((p1 &&& (255 : Int32)).toUInt32.toUInt16.toUInt32.toInt32)), .val (.int ((p2 &&& (255 : Int32)).toUInt32.toUInt16.toUInt32.toInt32)), .val (.int (p3 &&& (3 : Int32))), .unset, .unset, .unset] [(.ref b506), (.ref b295), (.ref b295)])) rfl (by rw [hml]; rfl) (Steps.refl _) (a := b295) (argsL := [(.ref b506)]) (rest := [(.ref b295)]) (lenOf pd_8 rfl) rfl (by show 2 * 0 + _ ≤ _; exact Nat.le_of_eq rfl) (hb hby at_183) (fun _ _ => ⟨rfl, e506, (by decide : 3 + 2 ≤ _), (by decide : 24 + 4 ≤ _)⟩)
    dsimp only [Pt.U, Pt.locs, Pt.cells, Pt.slots] at Xq509 hSq509 hgq509 l509 y509 z509 st509 hQ509
    rw [l509, y509, z509] at Xq509
    have X509 : Stand p l e _ (s.setVm T509.vm) m _ below meth c T509 _ _ _ := Xq509
    have hS509 := foldS hS0 (by rw [e506]; exact (Nat.zero_le _)) hSq509 hgq509
    have hZ509 : Z.Warmed39 (s.setVm T509.vm).vm := State.Warmed39.trans (t := (s.setVm s.vm)) hZ hSq509.1
    have hown509 : (s.setVm T509.vm).vm.findClass "com/example/formula_to_count/formulatocount/ArgumentIsVariablePinLaw" = some m.cls := by show T509.vm.findClass _ = _; rw [hSq509.1.alike.findClass]; exact hown
    obtain ⟨rfl, N509q, K509q⟩ := hQ509
    have N509 := Fr.app N290 N509q
    have Z509 : n0 ≤ T509.heap.size := Nat.le_trans Z506 K509q.1
    obtain ⟨T530, h530, X530, e530, E530, A530, D530, -, st530⟩ := newO X509 hx hZ509 hown509 (hw _ (List.mem_of_getElem? (i := 71) rfl)) (hw _ (List.mem_of_getElem? (i := 72) rfl)) (hw _ (List.mem_of_getElem? (i := 73) rfl)) rfl (g := (mkF m 229 #[.val (.int p0), .val (.int p1), .val (.int p2), .val (.int p3), .val (.ref b1), .val (.int v292), .val (.int ((p1 &&& (255 : Int32)).toUInt32.toUInt16.toUInt32.toInt32)), .val (.int ((p2 &&& (255 : Int32)).toUInt32.toUInt16.toUInt32.toInt32)), .val (.int (p3 &&& (3 : Int32))), .val (.ref b295), .unset, .unset] [])) rfl (hb hby at_229) (by decide) (by decide)
    obtain ⟨b530, g530⟩ : ∃ z, z = T509.heap.size := ⟨_, rfl⟩
    rw [← g530] at A530 D530 st530
    have gnb530 : n0 ≤ b530 := Nat.le_trans Z509 (Nat.le_of_eq g530.symm)
    have Z530 : n0 ≤ h530.size := Nat.le_trans Z509 E530.1
    have cy531 := (cy316.ext E295)
    have cy532 := (cy531.ext E506)
    have cy533 := (cy532.keep K509q)
    have ne_530_1 : (A 0) ≠ b530 := Nat.ne_of_lt (Nat.lt_of_lt_of_le cy533.lt (Nat.le_of_eq g530.symm))
    have cy534 := (cy335.ext E295)
    have cy535 := (cy534.ext E506)
    have cy536 := (cy535.keep K509q)
    have ne_530_2 : (A 1) ≠ b530 := Nat.ne_of_lt (Nat.lt_of_lt_of_le cy536.lt (Nat.le_of_eq g530.symm))
    have cy537 := (cy353.ext E295)
    have cy538 := (cy537.ext E506)
    have cy539 := (cy538.keep K509q)
    have ne_530_3 : (A 2) ≠ b530 := Nat.ne_of_lt (Nat.lt_of_lt_of_le cy539.lt (Nat.le_of_eq g530.symm))
    have cy540 := (cy370.ext E295)
    have cy541 := (cy540.ext E506)
    have cy542 := (cy541.keep K509q)
    have ne_530_4 : (A 3) ≠ b530 := Nat.ne_of_lt (Nat.lt_of_lt_of_le cy542.lt (Nat.le_of_eq g530.symm))
    have cy543 := (cy386.ext E295)
    have cy544 := (cy543.ext E506)
    have cy545 := (cy544.keep K509q)
    have ne_530_5 : (A 4) ≠ b530 := Nat.ne_of_lt (Nat.lt_of_lt_of_le cy545.lt (Nat.le_of_eq g530.symm))
    have cy546 := (cy401.ext E295)
    have cy547 := (cy546.ext E506)
    have cy548 := (cy547.keep K509q)
    have ne_530_6 : (A 5) ≠ b530 := Nat.ne_of_lt (Nat.lt_of_lt_of_le cy548.lt (Nat.le_of_eq g530.symm))
    have cy549 := (cy415.ext E295)
    have cy550 := (cy549.ext E506)
    have cy551 := (cy550.keep K509q)
    have ne_530_7 : (A 6) ≠ b530 := Nat.ne_of_lt (Nat.lt_of_lt_of_le cy551.lt (Nat.le_of_eq g530.symm))
    have cy552 := (cy428.ext E295)
    have cy553 := (cy552.ext E506)
    have cy554 := (cy553.keep K509q)
    have ne_530_8 : (A 7) ≠ b530 := Nat.ne_of_lt (Nat.lt_of_lt_of_le cy554.lt (Nat.le_of_eq g530.symm))
    have cy555 := (cy440.ext E295)
    have cy556 := (cy555.ext E506)
    have cy557 := (cy556.keep K509q)
    have ne_530_9 : (A 8) ≠ b530 := Nat.ne_of_lt (Nat.lt_of_lt_of_le cy557.lt (Nat.le_of_eq g530.symm))
    have cy558 := (cy451.ext E295)
    have cy559 := (cy558.ext E506)
    have cy560 := (cy559.keep K509q)
    have ne_530_10 : (A 9) ≠ b530 := Nat.ne_of_lt (Nat.lt_of_lt_of_le cy560.lt (Nat.le_of_eq g530.symm))
    have cy561 := (cy461.ext E295)
    have cy562 := (cy561.ext E506)
    have cy563 := (cy562.keep K509q)
    have ne_530_11 : (A 10) ≠ b530 := Nat.ne_of_lt (Nat.lt_of_lt_of_le cy563.lt (Nat.le_of_eq g530.symm))
    have cy564 := (cy470.ext E295)
    have cy565 := (cy564.ext E506)
    have cy566 := (cy565.keep K509q)
    have ne_530_12 : (A 11) ≠ b530 := Nat.ne_of_lt (Nat.lt_of_lt_of_le cy566.lt (Nat.le_of_eq g530.symm))
    have cy567 := (cy478.ext E295)
    have cy568 := (cy567.ext E506)
    have cy569 := (cy568.keep K509q)
    have ne_530_13 : (A 12) ≠ b530 := Nat.ne_of_lt (Nat.lt_of_lt_of_le cy569.lt (Nat.le_of_eq g530.symm))
    have cy570 := (cy485.ext E295)
    have cy571 := (cy570.ext E506)
    have cy572 := (cy571.keep K509q)
    have ne_530_14 : (A 13) ≠ b530 := Nat.ne_of_lt (Nat.lt_of_lt_of_le cy572.lt (Nat.le_of_eq g530.symm))
    have cy573 := (cy491.ext E295)
    have cy574 := (cy573.ext E506)
    have cy575 := (cy574.keep K509q)
    have ne_530_15 : (A 14) ≠ b530 := Nat.ne_of_lt (Nat.lt_of_lt_of_le cy575.lt (Nat.le_of_eq g530.symm))
    have cy576 := (cy496.ext E295)
    have cy577 := (cy576.ext E506)
    have cy578 := (cy577.keep K509q)
    have ne_530_16 : (A 15) ≠ b530 := Nat.ne_of_lt (Nat.lt_of_lt_of_le cy578.lt (Nat.le_of_eq g530.symm))
    have cy579 := (cy500.ext E295)
    have cy580 := (cy579.ext E506)
    have cy581 := (cy580.keep K509q)
    have ne_530_17 : (A 16) ≠ b530 := Nat.ne_of_lt (Nat.lt_of_lt_of_le cy581.lt (Nat.le_of_eq g530.symm))
    have cy582 := (cy503.ext E295)
    have cy583 := (cy582.ext E506)
    have cy584 := (cy583.keep K509q)
    have ne_530_18 : (A 17) ≠ b530 := Nat.ne_of_lt (Nat.lt_of_lt_of_le cy584.lt (Nat.le_of_eq g530.symm))
    have cy585 := (cy505.ext E295)
    have cy586 := (cy585.ext E506)
    have cy587 := (cy586.keep K509q)
    have ne_530_19 : (A 18) ≠ b530 := Nat.ne_of_lt (Nat.lt_of_lt_of_le cy587.lt (Nat.le_of_eq g530.symm))
    have cy588 := (cy508.ext E506)
    have cy589 := (cy588.keep K509q)
    have ne_530_20 : (A 19) ≠ b530 := Nat.ne_of_lt (Nat.lt_of_lt_of_le cy589.lt (Nat.le_of_eq g530.symm))
    have cy590 := (V290.ext E295)
    have cy591 := (cy590.ext E506)
    have cy592 := (cy591.keep K509q (fun hq => ne_295_21 (List.mem_singleton.mp hq)))
    have ne_530_21 : b1 ≠ b530 := Nat.ne_of_lt (Nat.lt_of_lt_of_le cy592.lt (Nat.le_of_eq g530.symm))
    have cy593 := (A295.ext E506)
    have cy594 := (cy593.keep K509q)
    have ne_530_22 : b295 ≠ b530 := Nat.ne_of_lt (Nat.lt_of_lt_of_le cy594.lt (Nat.le_of_eq g530.symm))
    have ne_530_23 : b506 ≠ b530 := Nat.ne_of_lt (Nat.lt_of_lt_of_le (V506.keep K509q (fun hq => (Ne.symm ne_506_22) (List.mem_singleton.mp hq))).lt (Nat.le_of_eq g530.symm))
    have F530_kind : Fld Z h530 b530 "com/example/formula_to_count/formulatocount/ProbLogReader$Argument" "kind" "Lcom/example/formula_to_count/formulatocount/Tokens$Kind;" .null := D530 (Or.inr (hw _ (List.mem_of_getElem? (i := 84) rfl))) (ty := (.object "com/example/formula_to_count/formulatocount/Tokens$Kind")) (by decide)
    have F530_text : Fld Z h530 b530 "com/example/formula_to_count/formulatocount/ProbLogReader$Argument" "text" "Ljava/lang/String;" .null := D530 (Or.inr (hw _ (List.mem_of_getElem? (i := 86) rfl))) (ty := (.object "java/lang/String")) (by decide)
    obtain ⟨cl595, Ar595, qq595, S595, M595, H595, G595⟩ := id (cy592.ext E530)
    have hin595 : ¬ (v292 < 0 ∨ cl595.slots.size ≤ (v292).toNatClampNeg) := fun q => q.elim (own_neg eqj) fun q2 => by rw [S595, own_clamp eqj, own_20] at q2; exact absurd ltj (Nat.not_lt.mpr q2)
    have hat595 : cl595.slots[(v292).toNatClampNeg]? = some (.ref (A nj)) := by rw [own_clamp eqj, H595 nj (by rw [S595, own_20]; exact ltj), own_g A nj ltj]
    obtain ⟨_, _, ⟨T596, L596, k596, n596⟩, -, X596, ⟨Lc596, hQ596, l596, y596, z596⟩, st596⟩ := X530.specialBack hx (y := (⟨"com/example/formula_to_count/formulatocount/ProbLogReader$Argument", "<init>", "(Lcom/example/formula_to_count/formulatocount/Tokens$Kind;Ljava/lang/String;)V"⟩ : MethodName)) rfl hown509 (mvT hZ509 (hw _ (List.mem_of_getElem? (i := 74) rfl))) (mvT hZ509 (hw _ (List.mem_of_getElem? (i := 75) rfl))) (mvT hZ509 (hw _ (List.mem_of_getElem? (i := 76) rfl))) (by decide) (backOf (W := 1) (rm6 l Z a0 hw [] b530 (A nj) b295 h530 n0 Z530 A530 gnb530 F530_kind F530_text) hZ509 (hw _ (List.mem_of_getElem? (i := 76) rfl)) (hw _ (List.mem_of_getElem? (i := 73) rfl)) (by decide) (by decide)) (g := (mkF m 240 #[.val (.int p0), .val (.int p1), .val (.int p2), .val (.int p3), .val (.ref b1), .val (.int v292), .val (.int ((p1 &&& (255 : Int32)).toUInt32.toUInt16.toUInt32.toInt32)), .val (.int ((p2 &&& (255 : Int32)).toUInt32.toUInt16.toUInt32.toInt32)), .val (.int (p3 &&& (3 : Int32))), .val (.ref b295), .unset, .unset] [(.ref b295), (.ref (A nj)), (.ref b530), (.ref b530)])) rfl (by rw [hml]; rfl) (Steps.refl _) (a := b530) (argsL := [(.ref (A nj)), (.ref b295)]) (rest := [(.ref b530)]) (lenOf pd_9 rfl) rfl (by show 2 * 0 + _ ≤ _; exact Nat.le_of_eq rfl) (hb hby at_240) (fun _ _ => ⟨rfl, e530, (by decide : 6 + 0 ≤ _), (by decide : 30 + 0 ≤ _)⟩)
    dsimp only [Pt.U, Pt.locs, Pt.cells, Pt.slots] at X596 l596 y596 z596 st596 hQ596
    rw [l596, y596, z596] at X596
    obtain ⟨rfl, N596q, K596q, EI596, FI596⟩ := hQ596
    have N596 := Fr.app N509 N596q
    have Z596 : n0 ≤ T596.heap.size := Nat.le_trans Z530 K596q.1
    have K597 : ∀ target, Steps p.tables e below (T596.setTop (mkF m 248 #[.val (.int p0), .val (.int p1), .val (.int p2), .val (.int p3), .val (.ref b1), .val (.int v292), .val (.int ((p1 &&& (255 : Int32)).toUInt32.toUInt16.toUInt32.toInt32)), .val (.int ((p2 &&& (255 : Int32)).toUInt32.toUInt16.toUInt32.toInt32)), .val (.int (p3 &&& (3 : Int32))), .val (.ref b295), .val (.ref b530), .unset] [(.int (1 : Int32)), (.int v292)])) target → Steps p.tables e below (T290.setTop (mkF m 176 #[.val (.int p0), .val (.int p1), .val (.int p2), .val (.int p3), .val (.ref b1), .val (.int v292), .val (.int ((p1 &&& (255 : Int32)).toUInt32.toUInt16.toUInt32.toInt32)), .val (.int ((p2 &&& (255 : Int32)).toUInt32.toUInt16.toUInt32.toInt32)), .val (.int (p3 &&& (3 : Int32))), .unset, .unset, .unset] [])) target := by
      intro target kt
      refine st295 _ ?_
      refine XS.dup X295.here hx rfl (hb hby at_179) rfl rfl ?_
      refine XS.iconst X295.here hx rfl (hb hby at_180) ?_
      show Steps p.tables e below (T295.setTop (mkF m 181 #[.val (.int p0), .val (.int p1), .val (.int p2), .val (.int p3), .val (.ref b1), .val (.int v292), .val (.int ((p1 &&& (255 : Int32)).toUInt32.toUInt16.toUInt32.toInt32)), .val (.int ((p2 &&& (255 : Int32)).toUInt32.toUInt16.toUInt32.toInt32)), .val (.int (p3 &&& (3 : Int32))), .unset, .unset, .unset] [(.int (0 : Int32)), (.ref b295), (.ref b295)])) _
      refine st506 _ ?_
      refine st509.trans ?_
      refine XS.astore X509.here hx rfl (hb hby at_186) rfl rfl (l' := #[.val (.int p0), .val (.int p1), .val (.int p2), .val (.int p3), .val (.ref b1), .val (.int v292), .val (.int ((p1 &&& (255 : Int32)).toUInt32.toUInt16.toUInt32.toInt32)), .val (.int ((p2 &&& (255 : Int32)).toUInt32.toUInt16.toUInt32.toInt32)), .val (.int (p3 &&& (3 : Int32))), .val (.ref b295), .unset, .unset]) rfl ?_
      show Steps p.tables e below (T509.setTop (mkF m 188 #[.val (.int p0), .val (.int p1), .val (.int p2), .val (.int p3), .val (.ref b1), .val (.int v292), .val (.int ((p1 &&& (255 : Int32)).toUInt32.toUInt16.toUInt32.toInt32)), .val (.int ((p2 &&& (255 : Int32)).toUInt32.toUInt16.toUInt32.toInt32)), .val (.int (p3 &&& (3 : Int32))), .val (.ref b295), .unset, .unset] [])) _
      refine XS.goto X509.here hx rfl (pc0 := 188) (pc' := 229) rfl (hb hby at_188) (by decide) (by decide) ?_
      refine st530 _ ?_
      show Steps p.tables e below (T530.setTop (mkF m 232 #[.val (.int p0), .val (.int p1), .val (.int p2), .val (.int p3), .val (.ref b1), .val (.int v292), .val (.int ((p1 &&& (255 : Int32)).toUInt32.toUInt16.toUInt32.toInt32)), .val (.int ((p2 &&& (255 : Int32)).toUInt32.toUInt16.toUInt32.toInt32)), .val (.int (p3 &&& (3 : Int32))), .val (.ref b295), .unset, .unset] [(.ref b530)])) _
      refine XS.dup X530.here hx rfl (hb hby at_232) rfl rfl ?_
      refine XS.aload X530.here hx rfl (hb hby at_233) rfl rfl ?_
      refine XS.iload X530.here hx rfl (hb hby at_235) rfl ?_
      refine X530.aaload hx (j := v292) (v := (.ref (A nj))) (by rw [e530]; exact Ar595.1) (State.isArrayOf_alike hZ509.alike Ar595.2.1) rfl Ar595.2.2 hin595 hat595 (g := (mkF m 237 #[.val (.int p0), .val (.int p1), .val (.int p2), .val (.int p3), .val (.ref b1), .val (.int v292), .val (.int ((p1 &&& (255 : Int32)).toUInt32.toUInt16.toUInt32.toInt32)), .val (.int ((p2 &&& (255 : Int32)).toUInt32.toUInt16.toUInt32.toInt32)), .val (.int (p3 &&& (3 : Int32))), .val (.ref b295), .unset, .unset] [(.int v292), (.ref b1), (.ref b530), (.ref b530)])) rfl rfl (hb hby at_237) _ ?_
      show Steps p.tables e below (T530.setTop (mkF m 238 #[.val (.int p0), .val (.int p1), .val (.int p2), .val (.int p3), .val (.ref b1), .val (.int v292), .val (.int ((p1 &&& (255 : Int32)).toUInt32.toUInt16.toUInt32.toInt32)), .val (.int ((p2 &&& (255 : Int32)).toUInt32.toUInt16.toUInt32.toInt32)), .val (.int (p3 &&& (3 : Int32))), .val (.ref b295), .unset, .unset] [(.ref (A nj)), (.ref b530), (.ref b530)])) _
      refine XS.aload X530.here hx rfl (hb hby at_238) rfl rfl ?_
      refine st596.trans ?_
      refine XS.astore X596.here hx rfl (hb hby at_243) rfl rfl (l' := #[.val (.int p0), .val (.int p1), .val (.int p2), .val (.int p3), .val (.ref b1), .val (.int v292), .val (.int ((p1 &&& (255 : Int32)).toUInt32.toUInt16.toUInt32.toInt32)), .val (.int ((p2 &&& (255 : Int32)).toUInt32.toUInt16.toUInt32.toInt32)), .val (.int (p3 &&& (3 : Int32))), .val (.ref b295), .val (.ref b530), .unset]) rfl ?_
      refine XS.iload X596.here hx rfl (hb hby at_245) rfl ?_
      show Steps p.tables e below (T596.setTop (mkF m 247 #[.val (.int p0), .val (.int p1), .val (.int p2), .val (.int p3), .val (.ref b1), .val (.int v292), .val (.int ((p1 &&& (255 : Int32)).toUInt32.toUInt16.toUInt32.toInt32)), .val (.int ((p2 &&& (255 : Int32)).toUInt32.toUInt16.toUInt32.toInt32)), .val (.int (p3 &&& (3 : Int32))), .val (.ref b295), .val (.ref b530), .unset] [(.int v292)])) _
      refine XS.iconst X596.here hx rfl (hb hby at_247) ?_
      exact kt
    refine Done.of ?_ K597
    by_cases hc248_598 : v292 = (1 : Int32)
    · have K : ∀ target, Steps p.tables e below (T596.setTop (mkF m 251 #[.val (.int p0), .val (.int p1), .val (.int p2), .val (.int p3), .val (.ref b1), .val (.int v292), .val (.int ((p1 &&& (255 : Int32)).toUInt32.toUInt16.toUInt32.toInt32)), .val (.int ((p2 &&& (255 : Int32)).toUInt32.toUInt16.toUInt32.toInt32)), .val (.int (p3 &&& (3 : Int32))), .val (.ref b295), .val (.ref b530), .unset] [])) target → Steps p.tables e below (T596.setTop (mkF m 248 #[.val (.int p0), .val (.int p1), .val (.int p2), .val (.int p3), .val (.ref b1), .val (.int v292), .val (.int ((p1 &&& (255 : Int32)).toUInt32.toUInt16.toUInt32.toInt32)), .val (.int ((p2 &&& (255 : Int32)).toUInt32.toUInt16.toUInt32.toInt32)), .val (.int (p3 &&& (3 : Int32))), .val (.ref b295), .val (.ref b530), .unset] [(.int (1 : Int32)), (.int v292)])) target := by
        intro target kt
        refine XS.icmpNo X596.here hx rfl (hb hby at_248) rfl (teq hc248_598).2 ?_
        exact kt
      refine Done.of ?_ K
      have cy599 := (cy267.wr W290 gnb1)
      have cy600 := (cy599.ext E295)
      have cy601 := (cy600.ext E506)
      have cy602 := (cy601.keep K509q (allS gnb295 all0))
      have cy603 := (cy602.ext E530)
      have cy604 := (cy603.keep K596q (allS gnb530 all0))
      obtain ⟨cq605, kq605, q605a, q605b, q605c⟩ := isOf hZ509 rfl EI596
      obtain ⟨_, _, ⟨T605, L605, k605, n605⟩, -, X605, ⟨Lc605, hQ605, l605, y605, z605⟩, st605⟩ := X596.virtualBack hx (y := (⟨"com/example/formula_to_count/formulatocount/ProbLogReader$Argument", "isVariable", "()Z"⟩ : MethodName)) (z := (⟨"com/example/formula_to_count/formulatocount/ProbLogReader$Argument", "isVariable", "()Z"⟩ : MethodName)) hown509 (mvT hZ509 (hw _ (List.mem_of_getElem? (i := 87) rfl))) (mvT hZ509 (hw _ (List.mem_of_getElem? (i := 88) rfl))) (notFace_of_selects (args := #[]) (mvT hZ509 (hw _ (List.mem_of_getElem? (i := 90) rfl)))) (mvT hZ509 (hw _ (List.mem_of_getElem? (i := 90) rfl))) (mvT hZ509 (hw _ (List.mem_of_getElem? (i := 89) rfl))) (by decide) (backOf (W := 0) (rm8s l Z a0 hw [] b530 (A nj) (A 1) T596.heap n0 Z596 FI596 (Sk1.ext cy604.2) (congrArg A (show nj = 1 by have q := congrArg Int32.toInt hc248_598; rw [eqj, show (1 : Int32).toInt = 1 from by decide] at q; omega))) hZ509 (hw _ (List.mem_of_getElem? (i := 91) rfl)) (hw _ (List.mem_of_getElem? (i := 73) rfl)) (by decide) (by decide)) q605a q605c (g := (mkF m 260 #[.val (.int p0), .val (.int p1), .val (.int p2), .val (.int p3), .val (.ref b1), .val (.int v292), .val (.int ((p1 &&& (255 : Int32)).toUInt32.toUInt16.toUInt32.toInt32)), .val (.int ((p2 &&& (255 : Int32)).toUInt32.toUInt16.toUInt32.toInt32)), .val (.int (p3 &&& (3 : Int32))), .val (.ref b295), .val (.ref b530), .val (.int (1 : Int32))] [(.ref b530)])) rfl (by rw [hml]; rfl) (Steps.refl _) (argsL := []) (rest := []) (lenOf pd_10 rfl) rfl (by show 2 * 0 + _ ≤ _; exact Nat.le_of_eq rfl) (hb hby at_260) (fun _ _ => ⟨rfl, rfl, (by decide : 6 + 0 ≤ _), (by decide : 30 + 0 ≤ _)⟩)
      dsimp only [Pt.U, Pt.locs, Pt.cells, Pt.slots] at X605 l605 y605 z605 st605 hQ605
      rw [l605, y605, z605] at X605
      obtain ⟨rfl, N605q, e605⟩ := hQ605
      have N605 := Fr.app N596 N605q
      obtain ⟨fs, hr, hrun, hended, hEnd⟩ := X605.leaveW hS509 (by rw [e605]; exact (Nat.le_trans (Nat.le_trans (Nat.le_refl _) E530.1) K596q.1)) (v := some (.int (1 : Int32))) (fun h => by rw [Bd.returns] at h; cases h)
      refine ⟨_, _, ?_, hrun, hended, _, _, rfl, ?_, hEnd.1, hEnd.2.1, hEnd.2.2.1, hEnd.2.2.2.mono (by decide) (by decide)⟩
      · refine XS.iconst X596.here hx rfl (hb hby at_251) ?_
        show Steps p.tables e below (T596.setTop (mkF m 252 #[.val (.int p0), .val (.int p1), .val (.int p2), .val (.int p3), .val (.ref b1), .val (.int v292), .val (.int ((p1 &&& (255 : Int32)).toUInt32.toUInt16.toUInt32.toInt32)), .val (.int ((p2 &&& (255 : Int32)).toUInt32.toUInt16.toUInt32.toInt32)), .val (.int (p3 &&& (3 : Int32))), .val (.ref b295), .val (.ref b530), .unset] [(.int (1 : Int32))])) _
        refine XS.goto X596.here hx rfl (pc0 := 252) (pc' := 256) rfl (hb hby at_252) (by decide) (by decide) ?_
        refine XS.istore X596.here hx rfl (hb hby at_256) rfl (l' := #[.val (.int p0), .val (.int p1), .val (.int p2), .val (.int p3), .val (.ref b1), .val (.int v292), .val (.int ((p1 &&& (255 : Int32)).toUInt32.toUInt16.toUInt32.toInt32)), .val (.int ((p2 &&& (255 : Int32)).toUInt32.toUInt16.toUInt32.toInt32)), .val (.int (p3 &&& (3 : Int32))), .val (.ref b295), .val (.ref b530), .val (.int (1 : Int32))]) rfl ?_
        refine XS.aload X596.here hx rfl (hb hby at_258) rfl rfl ?_
        show Steps p.tables e below (T596.setTop (mkF m 260 #[.val (.int p0), .val (.int p1), .val (.int p2), .val (.int p3), .val (.ref b1), .val (.int v292), .val (.int ((p1 &&& (255 : Int32)).toUInt32.toUInt16.toUInt32.toInt32)), .val (.int ((p2 &&& (255 : Int32)).toUInt32.toUInt16.toUInt32.toInt32)), .val (.int (p3 &&& (3 : Int32))), .val (.ref b295), .val (.ref b530), .val (.int (1 : Int32))] [(.ref b530)])) _
        refine st605.trans ?_
        refine XS.iload X605.here hx rfl (hb hby at_263) rfl ?_
        show Steps p.tables e below (T605.setTop (mkF m 265 #[.val (.int p0), .val (.int p1), .val (.int p2), .val (.int p3), .val (.ref b1), .val (.int v292), .val (.int ((p1 &&& (255 : Int32)).toUInt32.toUInt16.toUInt32.toInt32)), .val (.int ((p2 &&& (255 : Int32)).toUInt32.toUInt16.toUInt32.toInt32)), .val (.int (p3 &&& (3 : Int32))), .val (.ref b295), .val (.ref b530), .val (.int (1 : Int32))] [(.int (1 : Int32)), (.int (1 : Int32))])) _
        refine XS.icmpNo X605.here hx rfl (hb hby at_265) rfl (teq (rfl : (1 : Int32) = (1 : Int32))).2 ?_
        refine XS.iconst X605.here hx rfl (hb hby at_268) ?_
        show Steps p.tables e below (T605.setTop (mkF m 269 #[.val (.int p0), .val (.int p1), .val (.int p2), .val (.int p3), .val (.ref b1), .val (.int v292), .val (.int ((p1 &&& (255 : Int32)).toUInt32.toUInt16.toUInt32.toInt32)), .val (.int ((p2 &&& (255 : Int32)).toUInt32.toUInt16.toUInt32.toInt32)), .val (.int (p3 &&& (3 : Int32))), .val (.ref b295), .val (.ref b530), .val (.int (1 : Int32))] [(.int (1 : Int32))])) _
        refine XS.goto X605.here hx rfl (pc0 := 269) (pc' := 273) rfl (hb hby at_269) (by decide) (by decide) ?_
        show Steps p.tables e below (T605.setTop (mkF m 273 #[.val (.int p0), .val (.int p1), .val (.int p2), .val (.int p3), .val (.ref b1), .val (.int v292), .val (.int ((p1 &&& (255 : Int32)).toUInt32.toUInt16.toUInt32.toInt32)), .val (.int ((p2 &&& (255 : Int32)).toUInt32.toUInt16.toUInt32.toInt32)), .val (.int (p3 &&& (3 : Int32))), .val (.ref b295), .val (.ref b530), .val (.int (1 : Int32))] [(.int (1 : Int32))])) _
        exact retN X605 hx (t := .boolean) Bd.returns (by simp) (hb hby at_273) hr
      · show Q0 Z p0 p1 p2 p3 A cs h0 n0 _ T605.heap _
        rw [e605]
        exact ⟨rfl, N605⟩
    · have K : ∀ target, Steps p.tables e below (T596.setTop (mkF m 255 #[.val (.int p0), .val (.int p1), .val (.int p2), .val (.int p3), .val (.ref b1), .val (.int v292), .val (.int ((p1 &&& (255 : Int32)).toUInt32.toUInt16.toUInt32.toInt32)), .val (.int ((p2 &&& (255 : Int32)).toUInt32.toUInt16.toUInt32.toInt32)), .val (.int (p3 &&& (3 : Int32))), .val (.ref b295), .val (.ref b530), .unset] [])) target → Steps p.tables e below (T596.setTop (mkF m 248 #[.val (.int p0), .val (.int p1), .val (.int p2), .val (.int p3), .val (.ref b1), .val (.int v292), .val (.int ((p1 &&& (255 : Int32)).toUInt32.toUInt16.toUInt32.toInt32)), .val (.int ((p2 &&& (255 : Int32)).toUInt32.toUInt16.toUInt32.toInt32)), .val (.int (p3 &&& (3 : Int32))), .val (.ref b295), .val (.ref b530), .unset] [(.int (1 : Int32)), (.int v292)])) target := by
        intro target kt
        refine XS.icmpYes X596.here hx rfl (pc0 := 248) (pc' := 255) rfl (hb hby at_248) rfl (feq hc248_598).2 (by decide) (by decide) ?_
        exact kt
      refine Done.of ?_ K
      have cy606 := (cy267.wr W290 gnb1)
      have cy607 := (cy606.ext E295)
      have cy608 := (cy607.ext E506)
      have cy609 := (cy608.keep K509q (allS gnb295 all0))
      have cy610 := (cy609.ext E530)
      have cy611 := (cy610.keep K596q (allS gnb530 all0))
      obtain ⟨cq612, kq612, q612a, q612b, q612c⟩ := isOf hZ509 rfl EI596
      obtain ⟨_, _, ⟨T612, L612, k612, n612⟩, -, X612, ⟨Lc612, hQ612, l612, y612, z612⟩, st612⟩ := X596.virtualBack hx (y := (⟨"com/example/formula_to_count/formulatocount/ProbLogReader$Argument", "isVariable", "()Z"⟩ : MethodName)) (z := (⟨"com/example/formula_to_count/formulatocount/ProbLogReader$Argument", "isVariable", "()Z"⟩ : MethodName)) hown509 (mvT hZ509 (hw _ (List.mem_of_getElem? (i := 87) rfl))) (mvT hZ509 (hw _ (List.mem_of_getElem? (i := 88) rfl))) (notFace_of_selects (args := #[]) (mvT hZ509 (hw _ (List.mem_of_getElem? (i := 90) rfl)))) (mvT hZ509 (hw _ (List.mem_of_getElem? (i := 90) rfl))) (mvT hZ509 (hw _ (List.mem_of_getElem? (i := 89) rfl))) (by decide) (backOf (W := 0) (rm8d l Z a0 hw [] b530 (A nj) (A 1) T596.heap n0 Z596 FI596 (Sk1.ext cy611.2) (hneA nj ltj (fun q => hc248_598 (Int32.toInt_inj.mp (by rw [eqj, q]; decide))))) hZ509 (hw _ (List.mem_of_getElem? (i := 91) rfl)) (hw _ (List.mem_of_getElem? (i := 73) rfl)) (by decide) (by decide)) q612a q612c (g := (mkF m 260 #[.val (.int p0), .val (.int p1), .val (.int p2), .val (.int p3), .val (.ref b1), .val (.int v292), .val (.int ((p1 &&& (255 : Int32)).toUInt32.toUInt16.toUInt32.toInt32)), .val (.int ((p2 &&& (255 : Int32)).toUInt32.toUInt16.toUInt32.toInt32)), .val (.int (p3 &&& (3 : Int32))), .val (.ref b295), .val (.ref b530), .val (.int (0 : Int32))] [(.ref b530)])) rfl (by rw [hml]; rfl) (Steps.refl _) (argsL := []) (rest := []) (lenOf pd_10 rfl) rfl (by show 2 * 0 + _ ≤ _; exact Nat.le_of_eq rfl) (hb hby at_260) (fun _ _ => ⟨rfl, rfl, (by decide : 6 + 0 ≤ _), (by decide : 30 + 0 ≤ _)⟩)
      dsimp only [Pt.U, Pt.locs, Pt.cells, Pt.slots] at X612 l612 y612 z612 st612 hQ612
      rw [l612, y612, z612] at X612
      obtain ⟨rfl, N612q, e612⟩ := hQ612
      have N612 := Fr.app N596 N612q
      obtain ⟨fs, hr, hrun, hended, hEnd⟩ := X612.leaveW hS509 (by rw [e612]; exact (Nat.le_trans (Nat.le_trans (Nat.le_refl _) E530.1) K596q.1)) (v := some (.int (1 : Int32))) (fun h => by rw [Bd.returns] at h; cases h)
      refine ⟨_, _, ?_, hrun, hended, _, _, rfl, ?_, hEnd.1, hEnd.2.1, hEnd.2.2.1, hEnd.2.2.2.mono (by decide) (by decide)⟩
      · refine XS.iconst X596.here hx rfl (hb hby at_255) ?_
        show Steps p.tables e below (T596.setTop (mkF m 256 #[.val (.int p0), .val (.int p1), .val (.int p2), .val (.int p3), .val (.ref b1), .val (.int v292), .val (.int ((p1 &&& (255 : Int32)).toUInt32.toUInt16.toUInt32.toInt32)), .val (.int ((p2 &&& (255 : Int32)).toUInt32.toUInt16.toUInt32.toInt32)), .val (.int (p3 &&& (3 : Int32))), .val (.ref b295), .val (.ref b530), .unset] [(.int (0 : Int32))])) _
        refine XS.istore X596.here hx rfl (hb hby at_256) rfl (l' := #[.val (.int p0), .val (.int p1), .val (.int p2), .val (.int p3), .val (.ref b1), .val (.int v292), .val (.int ((p1 &&& (255 : Int32)).toUInt32.toUInt16.toUInt32.toInt32)), .val (.int ((p2 &&& (255 : Int32)).toUInt32.toUInt16.toUInt32.toInt32)), .val (.int (p3 &&& (3 : Int32))), .val (.ref b295), .val (.ref b530), .val (.int (0 : Int32))]) rfl ?_
        refine XS.aload X596.here hx rfl (hb hby at_258) rfl rfl ?_
        refine st612.trans ?_
        refine XS.iload X612.here hx rfl (hb hby at_263) rfl ?_
        show Steps p.tables e below (T612.setTop (mkF m 265 #[.val (.int p0), .val (.int p1), .val (.int p2), .val (.int p3), .val (.ref b1), .val (.int v292), .val (.int ((p1 &&& (255 : Int32)).toUInt32.toUInt16.toUInt32.toInt32)), .val (.int ((p2 &&& (255 : Int32)).toUInt32.toUInt16.toUInt32.toInt32)), .val (.int (p3 &&& (3 : Int32))), .val (.ref b295), .val (.ref b530), .val (.int (0 : Int32))] [(.int (0 : Int32)), (.int (0 : Int32))])) _
        refine XS.icmpNo X612.here hx rfl (hb hby at_265) rfl (teq (rfl : (0 : Int32) = (0 : Int32))).2 ?_
        show Steps p.tables e below (T612.setTop (mkF m 268 #[.val (.int p0), .val (.int p1), .val (.int p2), .val (.int p3), .val (.ref b1), .val (.int v292), .val (.int ((p1 &&& (255 : Int32)).toUInt32.toUInt16.toUInt32.toInt32)), .val (.int ((p2 &&& (255 : Int32)).toUInt32.toUInt16.toUInt32.toInt32)), .val (.int (p3 &&& (3 : Int32))), .val (.ref b295), .val (.ref b530), .val (.int (0 : Int32))] [])) _
        refine XS.iconst X612.here hx rfl (hb hby at_268) ?_
        show Steps p.tables e below (T612.setTop (mkF m 269 #[.val (.int p0), .val (.int p1), .val (.int p2), .val (.int p3), .val (.ref b1), .val (.int v292), .val (.int ((p1 &&& (255 : Int32)).toUInt32.toUInt16.toUInt32.toInt32)), .val (.int ((p2 &&& (255 : Int32)).toUInt32.toUInt16.toUInt32.toInt32)), .val (.int (p3 &&& (3 : Int32))), .val (.ref b295), .val (.ref b530), .val (.int (0 : Int32))] [(.int (1 : Int32))])) _
        refine XS.goto X612.here hx rfl (pc0 := 269) (pc' := 273) rfl (hb hby at_269) (by decide) (by decide) ?_
        show Steps p.tables e below (T612.setTop (mkF m 273 #[.val (.int p0), .val (.int p1), .val (.int p2), .val (.int p3), .val (.ref b1), .val (.int v292), .val (.int ((p1 &&& (255 : Int32)).toUInt32.toUInt16.toUInt32.toInt32)), .val (.int ((p2 &&& (255 : Int32)).toUInt32.toUInt16.toUInt32.toInt32)), .val (.int (p3 &&& (3 : Int32))), .val (.ref b295), .val (.ref b530), .val (.int (0 : Int32))] [(.int (1 : Int32))])) _
        exact retN X612 hx (t := .boolean) Bd.returns (by simp) (hb hby at_273) hr
      · show Q0 Z p0 p1 p2 p3 A cs h0 n0 _ T612.heap _
        rw [e612]
        exact ⟨rfl, N612⟩
  · have K : ∀ target, Steps p.tables e below (T290.setTop (mkF m 191 #[.val (.int p0), .val (.int p1), .val (.int p2), .val (.int p3), .val (.ref b1), .val (.int v292), .val (.int ((p1 &&& (255 : Int32)).toUInt32.toUInt16.toUInt32.toInt32)), .val (.int ((p2 &&& (255 : Int32)).toUInt32.toUInt16.toUInt32.toInt32)), .val (.int (p3 &&& (3 : Int32))), .unset, .unset, .unset] [])) target → Steps p.tables e below (T290.setTop (mkF m 173 #[.val (.int p0), .val (.int p1), .val (.int p2), .val (.int p3), .val (.ref b1), .val (.int v292), .val (.int ((p1 &&& (255 : Int32)).toUInt32.toUInt16.toUInt32.toInt32)), .val (.int ((p2 &&& (255 : Int32)).toUInt32.toUInt16.toUInt32.toInt32)), .val (.int (p3 &&& (3 : Int32))), .unset, .unset, .unset] [(.int (p3 &&& (3 : Int32)))])) target := by
      intro target kt
      refine XS.ifYes X290.here hx rfl (pc0 := 173) (pc' := 191) rfl (hb hby at_173) rfl ((if0 _ _).trans (feq hc173_294).2) (by decide) (by decide) ?_
      exact kt
    refine Done.of ?_ K
    have K613 : ∀ target, Steps p.tables e below (T290.setTop (mkF m 194 #[.val (.int p0), .val (.int p1), .val (.int p2), .val (.int p3), .val (.ref b1), .val (.int v292), .val (.int ((p1 &&& (255 : Int32)).toUInt32.toUInt16.toUInt32.toInt32)), .val (.int ((p2 &&& (255 : Int32)).toUInt32.toUInt16.toUInt32.toInt32)), .val (.int (p3 &&& (3 : Int32))), .unset, .unset, .unset] [(.int (1 : Int32)), (.int (p3 &&& (3 : Int32)))])) target → Steps p.tables e below (T290.setTop (mkF m 191 #[.val (.int p0), .val (.int p1), .val (.int p2), .val (.int p3), .val (.ref b1), .val (.int v292), .val (.int ((p1 &&& (255 : Int32)).toUInt32.toUInt16.toUInt32.toInt32)), .val (.int ((p2 &&& (255 : Int32)).toUInt32.toUInt16.toUInt32.toInt32)), .val (.int (p3 &&& (3 : Int32))), .unset, .unset, .unset] [])) target := by
      intro target kt
      refine XS.iload X290.here hx rfl (hb hby at_191) rfl ?_
      refine XS.iconst X290.here hx rfl (hb hby at_193) ?_
      exact kt
    refine Done.of ?_ K613
    by_cases hc194_614 : (p3 &&& (3 : Int32)) = (1 : Int32)
    · have K : ∀ target, Steps p.tables e below (T290.setTop (mkF m 197 #[.val (.int p0), .val (.int p1), .val (.int p2), .val (.int p3), .val (.ref b1), .val (.int v292), .val (.int ((p1 &&& (255 : Int32)).toUInt32.toUInt16.toUInt32.toInt32)), .val (.int ((p2 &&& (255 : Int32)).toUInt32.toUInt16.toUInt32.toInt32)), .val (.int (p3 &&& (3 : Int32))), .unset, .unset, .unset] [])) target → Steps p.tables e below (T290.setTop (mkF m 194 #[.val (.int p0), .val (.int p1), .val (.int p2), .val (.int p3), .val (.ref b1), .val (.int v292), .val (.int ((p1 &&& (255 : Int32)).toUInt32.toUInt16.toUInt32.toInt32)), .val (.int ((p2 &&& (255 : Int32)).toUInt32.toUInt16.toUInt32.toInt32)), .val (.int (p3 &&& (3 : Int32))), .unset, .unset, .unset] [(.int (1 : Int32)), (.int (p3 &&& (3 : Int32)))])) target := by
        intro target kt
        refine XS.icmpNo X290.here hx rfl (hb hby at_194) rfl (teq hc194_614).2 ?_
        exact kt
      refine Done.of ?_ K
      obtain ⟨_, _, ⟨T615, L615, k615, n615⟩, -, X615, ⟨Lc615, hQ615, l615, y615, z615⟩, st615⟩ := Jvm.LawKit.callS X290 hx (y := (⟨"java/lang/String", "valueOf", "(C)Ljava/lang/String;"⟩ : MethodName)) hown (mvT hZ (hw _ (List.mem_of_getElem? (i := 45) rfl))) (mvT hZ (hw _ (List.mem_of_getElem? (i := 46) rfl))) (mvT hZ (hw _ (List.mem_of_getElem? (i := 47) rfl))) (mvT hZ (hw _ (List.mem_of_getElem? (i := 48) rfl))) (by decide) (backOf (W := 0) (rm1 l Z a0 hw [] ((p1 &&& (255 : Int32)).toUInt32.toUInt16.toUInt32.toInt32) cs h290 n0 Z290 (SCS.ext (cy267.wr W290 gnb1).2) hcs (own_ch p1)) hZ (hw _ (List.mem_of_getElem? (i := 48) rfl)) (hw _ (List.mem_of_getElem? (i := 47) rfl)) (by decide) (by decide)) (g := (mkF m 199 #[.val (.int p0), .val (.int p1), .val (.int p2), .val (.int p3), .val (.ref b1), .val (.int v292), .val (.int ((p1 &&& (255 : Int32)).toUInt32.toUInt16.toUInt32.toInt32)), .val (.int ((p2 &&& (255 : Int32)).toUInt32.toUInt16.toUInt32.toInt32)), .val (.int (p3 &&& (3 : Int32))), .unset, .unset, .unset] [(.int ((p1 &&& (255 : Int32)).toUInt32.toUInt16.toUInt32.toInt32))])) rfl (by rw [hml]; rfl) (argsL := [(.int ((p1 &&& (255 : Int32)).toUInt32.toUInt16.toUInt32.toInt32))]) (rest := []) (lenOf pd_11 rfl) rfl (by show 2 * 0 + _ ≤ _; exact Nat.le_of_eq rfl) (hb hby at_199) (fun _ _ => ⟨rfl, e290, (by decide : 1 + 2 ≤ _), (by decide : 20 + 5 ≤ _)⟩)
      dsimp only [Pt.U, Pt.locs, Pt.cells, Pt.slots] at X615 l615 y615 z615 st615 hQ615
      rw [l615, y615, z615] at X615
      obtain ⟨b615, rfl, N615q, K615q⟩ := hQ615
      have N615 := Fr.app N290 N615q
      have Z615 : n0 ≤ T615.heap.size := Nat.le_trans Z290 K615q.1
      obtain ⟨T616, h616, X616, e616, E616, A616, D616, -, st616⟩ := newO X615 hx hZ hown (hw _ (List.mem_of_getElem? (i := 71) rfl)) (hw _ (List.mem_of_getElem? (i := 72) rfl)) (hw _ (List.mem_of_getElem? (i := 73) rfl)) rfl (g := (mkF m 229 #[.val (.int p0), .val (.int p1), .val (.int p2), .val (.int p3), .val (.ref b1), .val (.int v292), .val (.int ((p1 &&& (255 : Int32)).toUInt32.toUInt16.toUInt32.toInt32)), .val (.int ((p2 &&& (255 : Int32)).toUInt32.toUInt16.toUInt32.toInt32)), .val (.int (p3 &&& (3 : Int32))), .val (.ref b615), .unset, .unset] [])) rfl (hb hby at_229) (by decide) (by decide)
      obtain ⟨b616, g616⟩ : ∃ z, z = T615.heap.size := ⟨_, rfl⟩
      rw [← g616] at A616 D616 st616
      have gnb616 : n0 ≤ b616 := Nat.le_trans Z615 (Nat.le_of_eq g616.symm)
      have Z616 : n0 ≤ h616.size := Nat.le_trans Z615 E616.1
      have cy617 := ((EA 0 (by decide)).ext E1)
      have cy618 := (cy617.wr W4)
      have cy619 := (cy618.wr W11)
      have cy620 := (cy619.wr W17)
      have cy621 := (cy620.wr W26)
      have cy622 := (cy621.wr W34)
      have cy623 := (cy622.wr W45)
      have cy624 := (cy623.wr W55)
      have cy625 := (cy624.wr W68)
      have cy626 := (cy625.wr W80)
      have cy627 := (cy626.wr W95)
      have cy628 := (cy627.wr W109)
      have cy629 := (cy628.wr W126)
      have cy630 := (cy629.wr W142)
      have cy631 := (cy630.wr W161)
      have cy632 := (cy631.wr W179)
      have cy633 := (cy632.wr W200)
      have cy634 := (cy633.wr W220)
      have cy635 := (cy634.wr W243)
      have cy636 := (cy635.wr W265)
      have cy637 := (cy636.wr W290)
      have cy638 := (cy637.keep K615q)
      have ne_616_1 : (A 0) ≠ b616 := Nat.ne_of_lt (Nat.lt_of_lt_of_le cy638.lt (Nat.le_of_eq g616.symm))
      have cy639 := (cy10.wr W11)
      have cy640 := (cy639.wr W17)
      have cy641 := (cy640.wr W26)
      have cy642 := (cy641.wr W34)
      have cy643 := (cy642.wr W45)
      have cy644 := (cy643.wr W55)
      have cy645 := (cy644.wr W68)
      have cy646 := (cy645.wr W80)
      have cy647 := (cy646.wr W95)
      have cy648 := (cy647.wr W109)
      have cy649 := (cy648.wr W126)
      have cy650 := (cy649.wr W142)
      have cy651 := (cy650.wr W161)
      have cy652 := (cy651.wr W179)
      have cy653 := (cy652.wr W200)
      have cy654 := (cy653.wr W220)
      have cy655 := (cy654.wr W243)
      have cy656 := (cy655.wr W265)
      have cy657 := (cy656.wr W290)
      have cy658 := (cy657.keep K615q)
      have ne_616_2 : (A 1) ≠ b616 := Nat.ne_of_lt (Nat.lt_of_lt_of_le cy658.lt (Nat.le_of_eq g616.symm))
      have cy659 := (cy16.wr W17)
      have cy660 := (cy659.wr W26)
      have cy661 := (cy660.wr W34)
      have cy662 := (cy661.wr W45)
      have cy663 := (cy662.wr W55)
      have cy664 := (cy663.wr W68)
      have cy665 := (cy664.wr W80)
      have cy666 := (cy665.wr W95)
      have cy667 := (cy666.wr W109)
      have cy668 := (cy667.wr W126)
      have cy669 := (cy668.wr W142)
      have cy670 := (cy669.wr W161)
      have cy671 := (cy670.wr W179)
      have cy672 := (cy671.wr W200)
      have cy673 := (cy672.wr W220)
      have cy674 := (cy673.wr W243)
      have cy675 := (cy674.wr W265)
      have cy676 := (cy675.wr W290)
      have cy677 := (cy676.keep K615q)
      have ne_616_3 : (A 2) ≠ b616 := Nat.ne_of_lt (Nat.lt_of_lt_of_le cy677.lt (Nat.le_of_eq g616.symm))
      have cy678 := (cy25.wr W26)
      have cy679 := (cy678.wr W34)
      have cy680 := (cy679.wr W45)
      have cy681 := (cy680.wr W55)
      have cy682 := (cy681.wr W68)
      have cy683 := (cy682.wr W80)
      have cy684 := (cy683.wr W95)
      have cy685 := (cy684.wr W109)
      have cy686 := (cy685.wr W126)
      have cy687 := (cy686.wr W142)
      have cy688 := (cy687.wr W161)
      have cy689 := (cy688.wr W179)
      have cy690 := (cy689.wr W200)
      have cy691 := (cy690.wr W220)
      have cy692 := (cy691.wr W243)
      have cy693 := (cy692.wr W265)
      have cy694 := (cy693.wr W290)
      have cy695 := (cy694.keep K615q)
      have ne_616_4 : (A 3) ≠ b616 := Nat.ne_of_lt (Nat.lt_of_lt_of_le cy695.lt (Nat.le_of_eq g616.symm))
      have cy696 := (cy33.wr W34)
      have cy697 := (cy696.wr W45)
      have cy698 := (cy697.wr W55)
      have cy699 := (cy698.wr W68)
      have cy700 := (cy699.wr W80)
      have cy701 := (cy700.wr W95)
      have cy702 := (cy701.wr W109)
      have cy703 := (cy702.wr W126)
      have cy704 := (cy703.wr W142)
      have cy705 := (cy704.wr W161)
      have cy706 := (cy705.wr W179)
      have cy707 := (cy706.wr W200)
      have cy708 := (cy707.wr W220)
      have cy709 := (cy708.wr W243)
      have cy710 := (cy709.wr W265)
      have cy711 := (cy710.wr W290)
      have cy712 := (cy711.keep K615q)
      have ne_616_5 : (A 4) ≠ b616 := Nat.ne_of_lt (Nat.lt_of_lt_of_le cy712.lt (Nat.le_of_eq g616.symm))
      have cy713 := (cy44.wr W45)
      have cy714 := (cy713.wr W55)
      have cy715 := (cy714.wr W68)
      have cy716 := (cy715.wr W80)
      have cy717 := (cy716.wr W95)
      have cy718 := (cy717.wr W109)
      have cy719 := (cy718.wr W126)
      have cy720 := (cy719.wr W142)
      have cy721 := (cy720.wr W161)
      have cy722 := (cy721.wr W179)
      have cy723 := (cy722.wr W200)
      have cy724 := (cy723.wr W220)
      have cy725 := (cy724.wr W243)
      have cy726 := (cy725.wr W265)
      have cy727 := (cy726.wr W290)
      have cy728 := (cy727.keep K615q)
      have ne_616_6 : (A 5) ≠ b616 := Nat.ne_of_lt (Nat.lt_of_lt_of_le cy728.lt (Nat.le_of_eq g616.symm))
      have cy729 := (cy54.wr W55)
      have cy730 := (cy729.wr W68)
      have cy731 := (cy730.wr W80)
      have cy732 := (cy731.wr W95)
      have cy733 := (cy732.wr W109)
      have cy734 := (cy733.wr W126)
      have cy735 := (cy734.wr W142)
      have cy736 := (cy735.wr W161)
      have cy737 := (cy736.wr W179)
      have cy738 := (cy737.wr W200)
      have cy739 := (cy738.wr W220)
      have cy740 := (cy739.wr W243)
      have cy741 := (cy740.wr W265)
      have cy742 := (cy741.wr W290)
      have cy743 := (cy742.keep K615q)
      have ne_616_7 : (A 6) ≠ b616 := Nat.ne_of_lt (Nat.lt_of_lt_of_le cy743.lt (Nat.le_of_eq g616.symm))
      have cy744 := (cy67.wr W68)
      have cy745 := (cy744.wr W80)
      have cy746 := (cy745.wr W95)
      have cy747 := (cy746.wr W109)
      have cy748 := (cy747.wr W126)
      have cy749 := (cy748.wr W142)
      have cy750 := (cy749.wr W161)
      have cy751 := (cy750.wr W179)
      have cy752 := (cy751.wr W200)
      have cy753 := (cy752.wr W220)
      have cy754 := (cy753.wr W243)
      have cy755 := (cy754.wr W265)
      have cy756 := (cy755.wr W290)
      have cy757 := (cy756.keep K615q)
      have ne_616_8 : (A 7) ≠ b616 := Nat.ne_of_lt (Nat.lt_of_lt_of_le cy757.lt (Nat.le_of_eq g616.symm))
      have cy758 := (cy79.wr W80)
      have cy759 := (cy758.wr W95)
      have cy760 := (cy759.wr W109)
      have cy761 := (cy760.wr W126)
      have cy762 := (cy761.wr W142)
      have cy763 := (cy762.wr W161)
      have cy764 := (cy763.wr W179)
      have cy765 := (cy764.wr W200)
      have cy766 := (cy765.wr W220)
      have cy767 := (cy766.wr W243)
      have cy768 := (cy767.wr W265)
      have cy769 := (cy768.wr W290)
      have cy770 := (cy769.keep K615q)
      have ne_616_9 : (A 8) ≠ b616 := Nat.ne_of_lt (Nat.lt_of_lt_of_le cy770.lt (Nat.le_of_eq g616.symm))
      have cy771 := (cy94.wr W95)
      have cy772 := (cy771.wr W109)
      have cy773 := (cy772.wr W126)
      have cy774 := (cy773.wr W142)
      have cy775 := (cy774.wr W161)
      have cy776 := (cy775.wr W179)
      have cy777 := (cy776.wr W200)
      have cy778 := (cy777.wr W220)
      have cy779 := (cy778.wr W243)
      have cy780 := (cy779.wr W265)
      have cy781 := (cy780.wr W290)
      have cy782 := (cy781.keep K615q)
      have ne_616_10 : (A 9) ≠ b616 := Nat.ne_of_lt (Nat.lt_of_lt_of_le cy782.lt (Nat.le_of_eq g616.symm))
      have cy783 := (cy108.wr W109)
      have cy784 := (cy783.wr W126)
      have cy785 := (cy784.wr W142)
      have cy786 := (cy785.wr W161)
      have cy787 := (cy786.wr W179)
      have cy788 := (cy787.wr W200)
      have cy789 := (cy788.wr W220)
      have cy790 := (cy789.wr W243)
      have cy791 := (cy790.wr W265)
      have cy792 := (cy791.wr W290)
      have cy793 := (cy792.keep K615q)
      have ne_616_11 : (A 10) ≠ b616 := Nat.ne_of_lt (Nat.lt_of_lt_of_le cy793.lt (Nat.le_of_eq g616.symm))
      have cy794 := (cy125.wr W126)
      have cy795 := (cy794.wr W142)
      have cy796 := (cy795.wr W161)
      have cy797 := (cy796.wr W179)
      have cy798 := (cy797.wr W200)
      have cy799 := (cy798.wr W220)
      have cy800 := (cy799.wr W243)
      have cy801 := (cy800.wr W265)
      have cy802 := (cy801.wr W290)
      have cy803 := (cy802.keep K615q)
      have ne_616_12 : (A 11) ≠ b616 := Nat.ne_of_lt (Nat.lt_of_lt_of_le cy803.lt (Nat.le_of_eq g616.symm))
      have cy804 := (cy141.wr W142)
      have cy805 := (cy804.wr W161)
      have cy806 := (cy805.wr W179)
      have cy807 := (cy806.wr W200)
      have cy808 := (cy807.wr W220)
      have cy809 := (cy808.wr W243)
      have cy810 := (cy809.wr W265)
      have cy811 := (cy810.wr W290)
      have cy812 := (cy811.keep K615q)
      have ne_616_13 : (A 12) ≠ b616 := Nat.ne_of_lt (Nat.lt_of_lt_of_le cy812.lt (Nat.le_of_eq g616.symm))
      have cy813 := (cy160.wr W161)
      have cy814 := (cy813.wr W179)
      have cy815 := (cy814.wr W200)
      have cy816 := (cy815.wr W220)
      have cy817 := (cy816.wr W243)
      have cy818 := (cy817.wr W265)
      have cy819 := (cy818.wr W290)
      have cy820 := (cy819.keep K615q)
      have ne_616_14 : (A 13) ≠ b616 := Nat.ne_of_lt (Nat.lt_of_lt_of_le cy820.lt (Nat.le_of_eq g616.symm))
      have cy821 := (cy178.wr W179)
      have cy822 := (cy821.wr W200)
      have cy823 := (cy822.wr W220)
      have cy824 := (cy823.wr W243)
      have cy825 := (cy824.wr W265)
      have cy826 := (cy825.wr W290)
      have cy827 := (cy826.keep K615q)
      have ne_616_15 : (A 14) ≠ b616 := Nat.ne_of_lt (Nat.lt_of_lt_of_le cy827.lt (Nat.le_of_eq g616.symm))
      have cy828 := (cy199.wr W200)
      have cy829 := (cy828.wr W220)
      have cy830 := (cy829.wr W243)
      have cy831 := (cy830.wr W265)
      have cy832 := (cy831.wr W290)
      have cy833 := (cy832.keep K615q)
      have ne_616_16 : (A 15) ≠ b616 := Nat.ne_of_lt (Nat.lt_of_lt_of_le cy833.lt (Nat.le_of_eq g616.symm))
      have cy834 := (cy219.wr W220)
      have cy835 := (cy834.wr W243)
      have cy836 := (cy835.wr W265)
      have cy837 := (cy836.wr W290)
      have cy838 := (cy837.keep K615q)
      have ne_616_17 : (A 16) ≠ b616 := Nat.ne_of_lt (Nat.lt_of_lt_of_le cy838.lt (Nat.le_of_eq g616.symm))
      have cy839 := (cy242.wr W243)
      have cy840 := (cy839.wr W265)
      have cy841 := (cy840.wr W290)
      have cy842 := (cy841.keep K615q)
      have ne_616_18 : (A 17) ≠ b616 := Nat.ne_of_lt (Nat.lt_of_lt_of_le cy842.lt (Nat.le_of_eq g616.symm))
      have cy843 := (cy264.wr W265)
      have cy844 := (cy843.wr W290)
      have cy845 := (cy844.keep K615q)
      have ne_616_19 : (A 18) ≠ b616 := Nat.ne_of_lt (Nat.lt_of_lt_of_le cy845.lt (Nat.le_of_eq g616.symm))
      have cy846 := (cy289.wr W290)
      have cy847 := (cy846.keep K615q)
      have ne_616_20 : (A 19) ≠ b616 := Nat.ne_of_lt (Nat.lt_of_lt_of_le cy847.lt (Nat.le_of_eq g616.symm))
      have ne_616_21 : b1 ≠ b616 := Nat.ne_of_lt (Nat.lt_of_lt_of_le (V290.keep K615q (by simp)).lt (Nat.le_of_eq g616.symm))
      have F616_kind : Fld Z h616 b616 "com/example/formula_to_count/formulatocount/ProbLogReader$Argument" "kind" "Lcom/example/formula_to_count/formulatocount/Tokens$Kind;" .null := D616 (Or.inr (hw _ (List.mem_of_getElem? (i := 84) rfl))) (ty := (.object "com/example/formula_to_count/formulatocount/Tokens$Kind")) (by decide)
      have F616_text : Fld Z h616 b616 "com/example/formula_to_count/formulatocount/ProbLogReader$Argument" "text" "Ljava/lang/String;" .null := D616 (Or.inr (hw _ (List.mem_of_getElem? (i := 86) rfl))) (ty := (.object "java/lang/String")) (by decide)
      have cy849 := (V290.keep K615q (by simp))
      have cy850 := (cy849.ext E616)
      obtain ⟨cl848, Ar848, qq848, S848, M848, H848, G848⟩ := id cy850
      have hin848 : ¬ (v292 < 0 ∨ cl848.slots.size ≤ (v292).toNatClampNeg) := fun q => q.elim (own_neg eqj) fun q2 => by rw [S848, own_clamp eqj, own_20] at q2; exact absurd ltj (Nat.not_lt.mpr q2)
      have hat848 : cl848.slots[(v292).toNatClampNeg]? = some (.ref (A nj)) := by rw [own_clamp eqj, H848 nj (by rw [S848, own_20]; exact ltj), own_g A nj ltj]
      obtain ⟨_, _, ⟨T851, L851, k851, n851⟩, -, X851, ⟨Lc851, hQ851, l851, y851, z851⟩, st851⟩ := X616.specialBack hx (y := (⟨"com/example/formula_to_count/formulatocount/ProbLogReader$Argument", "<init>", "(Lcom/example/formula_to_count/formulatocount/Tokens$Kind;Ljava/lang/String;)V"⟩ : MethodName)) rfl hown (mvT hZ (hw _ (List.mem_of_getElem? (i := 74) rfl))) (mvT hZ (hw _ (List.mem_of_getElem? (i := 75) rfl))) (mvT hZ (hw _ (List.mem_of_getElem? (i := 76) rfl))) (by decide) (backOf (W := 1) (rm6 l Z a0 hw [] b616 (A nj) b615 h616 n0 Z616 A616 gnb616 F616_kind F616_text) hZ (hw _ (List.mem_of_getElem? (i := 76) rfl)) (hw _ (List.mem_of_getElem? (i := 73) rfl)) (by decide) (by decide)) (g := (mkF m 240 #[.val (.int p0), .val (.int p1), .val (.int p2), .val (.int p3), .val (.ref b1), .val (.int v292), .val (.int ((p1 &&& (255 : Int32)).toUInt32.toUInt16.toUInt32.toInt32)), .val (.int ((p2 &&& (255 : Int32)).toUInt32.toUInt16.toUInt32.toInt32)), .val (.int (p3 &&& (3 : Int32))), .val (.ref b615), .unset, .unset] [(.ref b615), (.ref (A nj)), (.ref b616), (.ref b616)])) rfl (by rw [hml]; rfl) (Steps.refl _) (a := b616) (argsL := [(.ref (A nj)), (.ref b615)]) (rest := [(.ref b616)]) (lenOf pd_9 rfl) rfl (by show 2 * 0 + _ ≤ _; exact Nat.le_of_eq rfl) (hb hby at_240) (fun _ _ => ⟨rfl, e616, (by decide : 4 + 0 ≤ _), (by decide : 27 + 0 ≤ _)⟩)
      dsimp only [Pt.U, Pt.locs, Pt.cells, Pt.slots] at X851 l851 y851 z851 st851 hQ851
      rw [l851, y851, z851] at X851
      obtain ⟨rfl, N851q, K851q, EI851, FI851⟩ := hQ851
      have N851 := Fr.app N615 N851q
      have Z851 : n0 ≤ T851.heap.size := Nat.le_trans Z616 K851q.1
      have K852 : ∀ target, Steps p.tables e below (T851.setTop (mkF m 248 #[.val (.int p0), .val (.int p1), .val (.int p2), .val (.int p3), .val (.ref b1), .val (.int v292), .val (.int ((p1 &&& (255 : Int32)).toUInt32.toUInt16.toUInt32.toInt32)), .val (.int ((p2 &&& (255 : Int32)).toUInt32.toUInt16.toUInt32.toInt32)), .val (.int (p3 &&& (3 : Int32))), .val (.ref b615), .val (.ref b616), .unset] [(.int (1 : Int32)), (.int v292)])) target → Steps p.tables e below (T290.setTop (mkF m 197 #[.val (.int p0), .val (.int p1), .val (.int p2), .val (.int p3), .val (.ref b1), .val (.int v292), .val (.int ((p1 &&& (255 : Int32)).toUInt32.toUInt16.toUInt32.toInt32)), .val (.int ((p2 &&& (255 : Int32)).toUInt32.toUInt16.toUInt32.toInt32)), .val (.int (p3 &&& (3 : Int32))), .unset, .unset, .unset] [])) target := by
        intro target kt
        refine XS.iload X290.here hx rfl (hb hby at_197) rfl ?_
        show Steps p.tables e below (T290.setTop (mkF m 199 #[.val (.int p0), .val (.int p1), .val (.int p2), .val (.int p3), .val (.ref b1), .val (.int v292), .val (.int ((p1 &&& (255 : Int32)).toUInt32.toUInt16.toUInt32.toInt32)), .val (.int ((p2 &&& (255 : Int32)).toUInt32.toUInt16.toUInt32.toInt32)), .val (.int (p3 &&& (3 : Int32))), .unset, .unset, .unset] [(.int ((p1 &&& (255 : Int32)).toUInt32.toUInt16.toUInt32.toInt32))])) _
        refine st615 _ ?_
        refine XS.astore X615.here hx rfl (hb hby at_202) rfl rfl (l' := #[.val (.int p0), .val (.int p1), .val (.int p2), .val (.int p3), .val (.ref b1), .val (.int v292), .val (.int ((p1 &&& (255 : Int32)).toUInt32.toUInt16.toUInt32.toInt32)), .val (.int ((p2 &&& (255 : Int32)).toUInt32.toUInt16.toUInt32.toInt32)), .val (.int (p3 &&& (3 : Int32))), .val (.ref b615), .unset, .unset]) rfl ?_
        show Steps p.tables e below (T615.setTop (mkF m 204 #[.val (.int p0), .val (.int p1), .val (.int p2), .val (.int p3), .val (.ref b1), .val (.int v292), .val (.int ((p1 &&& (255 : Int32)).toUInt32.toUInt16.toUInt32.toInt32)), .val (.int ((p2 &&& (255 : Int32)).toUInt32.toUInt16.toUInt32.toInt32)), .val (.int (p3 &&& (3 : Int32))), .val (.ref b615), .unset, .unset] [])) _
        refine XS.goto X615.here hx rfl (pc0 := 204) (pc' := 229) rfl (hb hby at_204) (by decide) (by decide) ?_
        refine st616 _ ?_
        refine XS.dup X616.here hx rfl (hb hby at_232) rfl rfl ?_
        show Steps p.tables e below (T616.setTop (mkF m 233 #[.val (.int p0), .val (.int p1), .val (.int p2), .val (.int p3), .val (.ref b1), .val (.int v292), .val (.int ((p1 &&& (255 : Int32)).toUInt32.toUInt16.toUInt32.toInt32)), .val (.int ((p2 &&& (255 : Int32)).toUInt32.toUInt16.toUInt32.toInt32)), .val (.int (p3 &&& (3 : Int32))), .val (.ref b615), .unset, .unset] [(.ref b616), (.ref b616)])) _
        refine XS.aload X616.here hx rfl (hb hby at_233) rfl rfl ?_
        refine XS.iload X616.here hx rfl (hb hby at_235) rfl ?_
        refine X616.aaload hx (j := v292) (v := (.ref (A nj))) (by rw [e616]; exact Ar848.1) (State.isArrayOf_alike hZ.alike Ar848.2.1) rfl Ar848.2.2 hin848 hat848 (g := (mkF m 237 #[.val (.int p0), .val (.int p1), .val (.int p2), .val (.int p3), .val (.ref b1), .val (.int v292), .val (.int ((p1 &&& (255 : Int32)).toUInt32.toUInt16.toUInt32.toInt32)), .val (.int ((p2 &&& (255 : Int32)).toUInt32.toUInt16.toUInt32.toInt32)), .val (.int (p3 &&& (3 : Int32))), .val (.ref b615), .unset, .unset] [(.int v292), (.ref b1), (.ref b616), (.ref b616)])) rfl rfl (hb hby at_237) _ ?_
        refine XS.aload X616.here hx rfl (hb hby at_238) rfl rfl ?_
        show Steps p.tables e below (T616.setTop (mkF m 240 #[.val (.int p0), .val (.int p1), .val (.int p2), .val (.int p3), .val (.ref b1), .val (.int v292), .val (.int ((p1 &&& (255 : Int32)).toUInt32.toUInt16.toUInt32.toInt32)), .val (.int ((p2 &&& (255 : Int32)).toUInt32.toUInt16.toUInt32.toInt32)), .val (.int (p3 &&& (3 : Int32))), .val (.ref b615), .unset, .unset] [(.ref b615), (.ref (A nj)), (.ref b616), (.ref b616)])) _
        refine st851.trans ?_
        refine XS.astore X851.here hx rfl (hb hby at_243) rfl rfl (l' := #[.val (.int p0), .val (.int p1), .val (.int p2), .val (.int p3), .val (.ref b1), .val (.int v292), .val (.int ((p1 &&& (255 : Int32)).toUInt32.toUInt16.toUInt32.toInt32)), .val (.int ((p2 &&& (255 : Int32)).toUInt32.toUInt16.toUInt32.toInt32)), .val (.int (p3 &&& (3 : Int32))), .val (.ref b615), .val (.ref b616), .unset]) rfl ?_
        refine XS.iload X851.here hx rfl (hb hby at_245) rfl ?_
        refine XS.iconst X851.here hx rfl (hb hby at_247) ?_
        exact kt
      refine Done.of ?_ K852
      by_cases hc248_853 : v292 = (1 : Int32)
      · have K : ∀ target, Steps p.tables e below (T851.setTop (mkF m 251 #[.val (.int p0), .val (.int p1), .val (.int p2), .val (.int p3), .val (.ref b1), .val (.int v292), .val (.int ((p1 &&& (255 : Int32)).toUInt32.toUInt16.toUInt32.toInt32)), .val (.int ((p2 &&& (255 : Int32)).toUInt32.toUInt16.toUInt32.toInt32)), .val (.int (p3 &&& (3 : Int32))), .val (.ref b615), .val (.ref b616), .unset] [])) target → Steps p.tables e below (T851.setTop (mkF m 248 #[.val (.int p0), .val (.int p1), .val (.int p2), .val (.int p3), .val (.ref b1), .val (.int v292), .val (.int ((p1 &&& (255 : Int32)).toUInt32.toUInt16.toUInt32.toInt32)), .val (.int ((p2 &&& (255 : Int32)).toUInt32.toUInt16.toUInt32.toInt32)), .val (.int (p3 &&& (3 : Int32))), .val (.ref b615), .val (.ref b616), .unset] [(.int (1 : Int32)), (.int v292)])) target := by
          intro target kt
          refine XS.icmpNo X851.here hx rfl (hb hby at_248) rfl (teq hc248_853).2 ?_
          exact kt
        refine Done.of ?_ K
        have cy854 := (cy267.wr W290 gnb1)
        have cy855 := (cy854.keep K615q all0)
        have cy856 := (cy855.ext E616)
        have cy857 := (cy856.keep K851q (allS gnb616 all0))
        obtain ⟨cq858, kq858, q858a, q858b, q858c⟩ := isOf hZ rfl EI851
        obtain ⟨_, _, ⟨T858, L858, k858, n858⟩, -, X858, ⟨Lc858, hQ858, l858, y858, z858⟩, st858⟩ := X851.virtualBack hx (y := (⟨"com/example/formula_to_count/formulatocount/ProbLogReader$Argument", "isVariable", "()Z"⟩ : MethodName)) (z := (⟨"com/example/formula_to_count/formulatocount/ProbLogReader$Argument", "isVariable", "()Z"⟩ : MethodName)) hown (mvT hZ (hw _ (List.mem_of_getElem? (i := 87) rfl))) (mvT hZ (hw _ (List.mem_of_getElem? (i := 88) rfl))) (notFace_of_selects (args := #[]) (mvT hZ (hw _ (List.mem_of_getElem? (i := 90) rfl)))) (mvT hZ (hw _ (List.mem_of_getElem? (i := 90) rfl))) (mvT hZ (hw _ (List.mem_of_getElem? (i := 89) rfl))) (by decide) (backOf (W := 0) (rm8s l Z a0 hw [] b616 (A nj) (A 1) T851.heap n0 Z851 FI851 (Sk1.ext cy857.2) (congrArg A (show nj = 1 by have q := congrArg Int32.toInt hc248_853; rw [eqj, show (1 : Int32).toInt = 1 from by decide] at q; omega))) hZ (hw _ (List.mem_of_getElem? (i := 91) rfl)) (hw _ (List.mem_of_getElem? (i := 73) rfl)) (by decide) (by decide)) q858a q858c (g := (mkF m 260 #[.val (.int p0), .val (.int p1), .val (.int p2), .val (.int p3), .val (.ref b1), .val (.int v292), .val (.int ((p1 &&& (255 : Int32)).toUInt32.toUInt16.toUInt32.toInt32)), .val (.int ((p2 &&& (255 : Int32)).toUInt32.toUInt16.toUInt32.toInt32)), .val (.int (p3 &&& (3 : Int32))), .val (.ref b615), .val (.ref b616), .val (.int (1 : Int32))] [(.ref b616)])) rfl (by rw [hml]; rfl) (Steps.refl _) (argsL := []) (rest := []) (lenOf pd_10 rfl) rfl (by show 2 * 0 + _ ≤ _; exact Nat.le_of_eq rfl) (hb hby at_260) (fun _ _ => ⟨rfl, rfl, (by decide : 4 + 0 ≤ _), (by decide : 27 + 0 ≤ _)⟩)
        dsimp only [Pt.U, Pt.locs, Pt.cells, Pt.slots] at X858 l858 y858 z858 st858 hQ858
        rw [l858, y858, z858] at X858
        obtain ⟨rfl, N858q, e858⟩ := hQ858
        have N858 := Fr.app N851 N858q
        obtain ⟨fs, hr, hrun, hended, hEnd⟩ := X858.leaveW hS0 (by rw [e858]; exact (Nat.zero_le _)) (v := some (.int (1 : Int32))) (fun h => by rw [Bd.returns] at h; cases h)
        refine ⟨_, _, ?_, hrun, hended, _, _, rfl, ?_, hEnd.1, hEnd.2.1, hEnd.2.2.1, hEnd.2.2.2.mono (by decide) (by decide)⟩
        · show Steps p.tables e below (T851.setTop (mkF m 251 #[.val (.int p0), .val (.int p1), .val (.int p2), .val (.int p3), .val (.ref b1), .val (.int v292), .val (.int ((p1 &&& (255 : Int32)).toUInt32.toUInt16.toUInt32.toInt32)), .val (.int ((p2 &&& (255 : Int32)).toUInt32.toUInt16.toUInt32.toInt32)), .val (.int (p3 &&& (3 : Int32))), .val (.ref b615), .val (.ref b616), .unset] [])) _
          refine XS.iconst X851.here hx rfl (hb hby at_251) ?_
          show Steps p.tables e below (T851.setTop (mkF m 252 #[.val (.int p0), .val (.int p1), .val (.int p2), .val (.int p3), .val (.ref b1), .val (.int v292), .val (.int ((p1 &&& (255 : Int32)).toUInt32.toUInt16.toUInt32.toInt32)), .val (.int ((p2 &&& (255 : Int32)).toUInt32.toUInt16.toUInt32.toInt32)), .val (.int (p3 &&& (3 : Int32))), .val (.ref b615), .val (.ref b616), .unset] [(.int (1 : Int32))])) _
          refine XS.goto X851.here hx rfl (pc0 := 252) (pc' := 256) rfl (hb hby at_252) (by decide) (by decide) ?_
          refine XS.istore X851.here hx rfl (hb hby at_256) rfl (l' := #[.val (.int p0), .val (.int p1), .val (.int p2), .val (.int p3), .val (.ref b1), .val (.int v292), .val (.int ((p1 &&& (255 : Int32)).toUInt32.toUInt16.toUInt32.toInt32)), .val (.int ((p2 &&& (255 : Int32)).toUInt32.toUInt16.toUInt32.toInt32)), .val (.int (p3 &&& (3 : Int32))), .val (.ref b615), .val (.ref b616), .val (.int (1 : Int32))]) rfl ?_
          refine XS.aload X851.here hx rfl (hb hby at_258) rfl rfl ?_
          refine st858.trans ?_
          show Steps p.tables e below (T858.setTop (mkF m 263 #[.val (.int p0), .val (.int p1), .val (.int p2), .val (.int p3), .val (.ref b1), .val (.int v292), .val (.int ((p1 &&& (255 : Int32)).toUInt32.toUInt16.toUInt32.toInt32)), .val (.int ((p2 &&& (255 : Int32)).toUInt32.toUInt16.toUInt32.toInt32)), .val (.int (p3 &&& (3 : Int32))), .val (.ref b615), .val (.ref b616), .val (.int (1 : Int32))] [(.int (1 : Int32))])) _
          refine XS.iload X858.here hx rfl (hb hby at_263) rfl ?_
          show Steps p.tables e below (T858.setTop (mkF m 265 #[.val (.int p0), .val (.int p1), .val (.int p2), .val (.int p3), .val (.ref b1), .val (.int v292), .val (.int ((p1 &&& (255 : Int32)).toUInt32.toUInt16.toUInt32.toInt32)), .val (.int ((p2 &&& (255 : Int32)).toUInt32.toUInt16.toUInt32.toInt32)), .val (.int (p3 &&& (3 : Int32))), .val (.ref b615), .val (.ref b616), .val (.int (1 : Int32))] [(.int (1 : Int32)), (.int (1 : Int32))])) _
          refine XS.icmpNo X858.here hx rfl (hb hby at_265) rfl (teq (rfl : (1 : Int32) = (1 : Int32))).2 ?_
          refine XS.iconst X858.here hx rfl (hb hby at_268) ?_
          show Steps p.tables e below (T858.setTop (mkF m 269 #[.val (.int p0), .val (.int p1), .val (.int p2), .val (.int p3), .val (.ref b1), .val (.int v292), .val (.int ((p1 &&& (255 : Int32)).toUInt32.toUInt16.toUInt32.toInt32)), .val (.int ((p2 &&& (255 : Int32)).toUInt32.toUInt16.toUInt32.toInt32)), .val (.int (p3 &&& (3 : Int32))), .val (.ref b615), .val (.ref b616), .val (.int (1 : Int32))] [(.int (1 : Int32))])) _
          refine XS.goto X858.here hx rfl (pc0 := 269) (pc' := 273) rfl (hb hby at_269) (by decide) (by decide) ?_
          show Steps p.tables e below (T858.setTop (mkF m 273 #[.val (.int p0), .val (.int p1), .val (.int p2), .val (.int p3), .val (.ref b1), .val (.int v292), .val (.int ((p1 &&& (255 : Int32)).toUInt32.toUInt16.toUInt32.toInt32)), .val (.int ((p2 &&& (255 : Int32)).toUInt32.toUInt16.toUInt32.toInt32)), .val (.int (p3 &&& (3 : Int32))), .val (.ref b615), .val (.ref b616), .val (.int (1 : Int32))] [(.int (1 : Int32))])) _
          exact retN X858 hx (t := .boolean) Bd.returns (by simp) (hb hby at_273) hr
        · show Q0 Z p0 p1 p2 p3 A cs h0 n0 _ T858.heap _
          rw [e858]
          exact ⟨rfl, N858⟩
      · have K : ∀ target, Steps p.tables e below (T851.setTop (mkF m 255 #[.val (.int p0), .val (.int p1), .val (.int p2), .val (.int p3), .val (.ref b1), .val (.int v292), .val (.int ((p1 &&& (255 : Int32)).toUInt32.toUInt16.toUInt32.toInt32)), .val (.int ((p2 &&& (255 : Int32)).toUInt32.toUInt16.toUInt32.toInt32)), .val (.int (p3 &&& (3 : Int32))), .val (.ref b615), .val (.ref b616), .unset] [])) target → Steps p.tables e below (T851.setTop (mkF m 248 #[.val (.int p0), .val (.int p1), .val (.int p2), .val (.int p3), .val (.ref b1), .val (.int v292), .val (.int ((p1 &&& (255 : Int32)).toUInt32.toUInt16.toUInt32.toInt32)), .val (.int ((p2 &&& (255 : Int32)).toUInt32.toUInt16.toUInt32.toInt32)), .val (.int (p3 &&& (3 : Int32))), .val (.ref b615), .val (.ref b616), .unset] [(.int (1 : Int32)), (.int v292)])) target := by
          intro target kt
          refine XS.icmpYes X851.here hx rfl (pc0 := 248) (pc' := 255) rfl (hb hby at_248) rfl (feq hc248_853).2 (by decide) (by decide) ?_
          exact kt
        refine Done.of ?_ K
        have cy859 := (cy267.wr W290 gnb1)
        have cy860 := (cy859.keep K615q all0)
        have cy861 := (cy860.ext E616)
        have cy862 := (cy861.keep K851q (allS gnb616 all0))
        obtain ⟨cq863, kq863, q863a, q863b, q863c⟩ := isOf hZ rfl EI851
        obtain ⟨_, _, ⟨T863, L863, k863, n863⟩, -, X863, ⟨Lc863, hQ863, l863, y863, z863⟩, st863⟩ := X851.virtualBack hx (y := (⟨"com/example/formula_to_count/formulatocount/ProbLogReader$Argument", "isVariable", "()Z"⟩ : MethodName)) (z := (⟨"com/example/formula_to_count/formulatocount/ProbLogReader$Argument", "isVariable", "()Z"⟩ : MethodName)) hown (mvT hZ (hw _ (List.mem_of_getElem? (i := 87) rfl))) (mvT hZ (hw _ (List.mem_of_getElem? (i := 88) rfl))) (notFace_of_selects (args := #[]) (mvT hZ (hw _ (List.mem_of_getElem? (i := 90) rfl)))) (mvT hZ (hw _ (List.mem_of_getElem? (i := 90) rfl))) (mvT hZ (hw _ (List.mem_of_getElem? (i := 89) rfl))) (by decide) (backOf (W := 0) (rm8d l Z a0 hw [] b616 (A nj) (A 1) T851.heap n0 Z851 FI851 (Sk1.ext cy862.2) (hneA nj ltj (fun q => hc248_853 (Int32.toInt_inj.mp (by rw [eqj, q]; decide))))) hZ (hw _ (List.mem_of_getElem? (i := 91) rfl)) (hw _ (List.mem_of_getElem? (i := 73) rfl)) (by decide) (by decide)) q863a q863c (g := (mkF m 260 #[.val (.int p0), .val (.int p1), .val (.int p2), .val (.int p3), .val (.ref b1), .val (.int v292), .val (.int ((p1 &&& (255 : Int32)).toUInt32.toUInt16.toUInt32.toInt32)), .val (.int ((p2 &&& (255 : Int32)).toUInt32.toUInt16.toUInt32.toInt32)), .val (.int (p3 &&& (3 : Int32))), .val (.ref b615), .val (.ref b616), .val (.int (0 : Int32))] [(.ref b616)])) rfl (by rw [hml]; rfl) (Steps.refl _) (argsL := []) (rest := []) (lenOf pd_10 rfl) rfl (by show 2 * 0 + _ ≤ _; exact Nat.le_of_eq rfl) (hb hby at_260) (fun _ _ => ⟨rfl, rfl, (by decide : 4 + 0 ≤ _), (by decide : 27 + 0 ≤ _)⟩)
        dsimp only [Pt.U, Pt.locs, Pt.cells, Pt.slots] at X863 l863 y863 z863 st863 hQ863
        rw [l863, y863, z863] at X863
        obtain ⟨rfl, N863q, e863⟩ := hQ863
        have N863 := Fr.app N851 N863q
        obtain ⟨fs, hr, hrun, hended, hEnd⟩ := X863.leaveW hS0 (by rw [e863]; exact (Nat.zero_le _)) (v := some (.int (1 : Int32))) (fun h => by rw [Bd.returns] at h; cases h)
        refine ⟨_, _, ?_, hrun, hended, _, _, rfl, ?_, hEnd.1, hEnd.2.1, hEnd.2.2.1, hEnd.2.2.2.mono (by decide) (by decide)⟩
        · refine XS.iconst X851.here hx rfl (hb hby at_255) ?_
          refine XS.istore X851.here hx rfl (hb hby at_256) rfl (l' := #[.val (.int p0), .val (.int p1), .val (.int p2), .val (.int p3), .val (.ref b1), .val (.int v292), .val (.int ((p1 &&& (255 : Int32)).toUInt32.toUInt16.toUInt32.toInt32)), .val (.int ((p2 &&& (255 : Int32)).toUInt32.toUInt16.toUInt32.toInt32)), .val (.int (p3 &&& (3 : Int32))), .val (.ref b615), .val (.ref b616), .val (.int (0 : Int32))]) rfl ?_
          show Steps p.tables e below (T851.setTop (mkF m 258 #[.val (.int p0), .val (.int p1), .val (.int p2), .val (.int p3), .val (.ref b1), .val (.int v292), .val (.int ((p1 &&& (255 : Int32)).toUInt32.toUInt16.toUInt32.toInt32)), .val (.int ((p2 &&& (255 : Int32)).toUInt32.toUInt16.toUInt32.toInt32)), .val (.int (p3 &&& (3 : Int32))), .val (.ref b615), .val (.ref b616), .val (.int (0 : Int32))] [])) _
          refine XS.aload X851.here hx rfl (hb hby at_258) rfl rfl ?_
          refine st863.trans ?_
          refine XS.iload X863.here hx rfl (hb hby at_263) rfl ?_
          show Steps p.tables e below (T863.setTop (mkF m 265 #[.val (.int p0), .val (.int p1), .val (.int p2), .val (.int p3), .val (.ref b1), .val (.int v292), .val (.int ((p1 &&& (255 : Int32)).toUInt32.toUInt16.toUInt32.toInt32)), .val (.int ((p2 &&& (255 : Int32)).toUInt32.toUInt16.toUInt32.toInt32)), .val (.int (p3 &&& (3 : Int32))), .val (.ref b615), .val (.ref b616), .val (.int (0 : Int32))] [(.int (0 : Int32)), (.int (0 : Int32))])) _
          refine XS.icmpNo X863.here hx rfl (hb hby at_265) rfl (teq (rfl : (0 : Int32) = (0 : Int32))).2 ?_
          refine XS.iconst X863.here hx rfl (hb hby at_268) ?_
          show Steps p.tables e below (T863.setTop (mkF m 269 #[.val (.int p0), .val (.int p1), .val (.int p2), .val (.int p3), .val (.ref b1), .val (.int v292), .val (.int ((p1 &&& (255 : Int32)).toUInt32.toUInt16.toUInt32.toInt32)), .val (.int ((p2 &&& (255 : Int32)).toUInt32.toUInt16.toUInt32.toInt32)), .val (.int (p3 &&& (3 : Int32))), .val (.ref b615), .val (.ref b616), .val (.int (0 : Int32))] [(.int (1 : Int32))])) _
          refine XS.goto X863.here hx rfl (pc0 := 269) (pc' := 273) rfl (hb hby at_269) (by decide) (by decide) ?_
          show Steps p.tables e below (T863.setTop (mkF m 273 #[.val (.int p0), .val (.int p1), .val (.int p2), .val (.int p3), .val (.ref b1), .val (.int v292), .val (.int ((p1 &&& (255 : Int32)).toUInt32.toUInt16.toUInt32.toInt32)), .val (.int ((p2 &&& (255 : Int32)).toUInt32.toUInt16.toUInt32.toInt32)), .val (.int (p3 &&& (3 : Int32))), .val (.ref b615), .val (.ref b616), .val (.int (0 : Int32))] [(.int (1 : Int32))])) _
          exact retN X863 hx (t := .boolean) Bd.returns (by simp) (hb hby at_273) hr
        · show Q0 Z p0 p1 p2 p3 A cs h0 n0 _ T863.heap _
          rw [e863]
          exact ⟨rfl, N863⟩
    · have K : ∀ target, Steps p.tables e below (T290.setTop (mkF m 207 #[.val (.int p0), .val (.int p1), .val (.int p2), .val (.int p3), .val (.ref b1), .val (.int v292), .val (.int ((p1 &&& (255 : Int32)).toUInt32.toUInt16.toUInt32.toInt32)), .val (.int ((p2 &&& (255 : Int32)).toUInt32.toUInt16.toUInt32.toInt32)), .val (.int (p3 &&& (3 : Int32))), .unset, .unset, .unset] [])) target → Steps p.tables e below (T290.setTop (mkF m 194 #[.val (.int p0), .val (.int p1), .val (.int p2), .val (.int p3), .val (.ref b1), .val (.int v292), .val (.int ((p1 &&& (255 : Int32)).toUInt32.toUInt16.toUInt32.toInt32)), .val (.int ((p2 &&& (255 : Int32)).toUInt32.toUInt16.toUInt32.toInt32)), .val (.int (p3 &&& (3 : Int32))), .unset, .unset, .unset] [(.int (1 : Int32)), (.int (p3 &&& (3 : Int32)))])) target := by
        intro target kt
        refine XS.icmpYes X290.here hx rfl (pc0 := 194) (pc' := 207) rfl (hb hby at_194) rfl (feq hc194_614).2 (by decide) (by decide) ?_
        exact kt
      refine Done.of ?_ K
      obtain ⟨T864, h864, X864, e864, E864, A864, D864, -, st864⟩ := newO X290 hx hZ hown (hw _ (List.mem_of_getElem? (i := 93) rfl)) (hw _ (List.mem_of_getElem? (i := 55) rfl)) (hw _ (List.mem_of_getElem? (i := 47) rfl)) e290 (g := (mkF m 207 #[.val (.int p0), .val (.int p1), .val (.int p2), .val (.int p3), .val (.ref b1), .val (.int v292), .val (.int ((p1 &&& (255 : Int32)).toUInt32.toUInt16.toUInt32.toInt32)), .val (.int ((p2 &&& (255 : Int32)).toUInt32.toUInt16.toUInt32.toInt32)), .val (.int (p3 &&& (3 : Int32))), .unset, .unset, .unset] [])) rfl (hb hby at_207) (by decide) (by decide)
      obtain ⟨b864, g864⟩ : ∃ z, z = h290.size := ⟨_, rfl⟩
      rw [← g864] at A864 D864 st864
      have gnb864 : n0 ≤ b864 := Nat.le_trans Z290 (Nat.le_of_eq g864.symm)
      have Z864 : n0 ≤ h864.size := Nat.le_trans Z290 E864.1
      have cy865 := ((EA 0 (by decide)).ext E1)
      have cy866 := (cy865.wr W4)
      have cy867 := (cy866.wr W11)
      have cy868 := (cy867.wr W17)
      have cy869 := (cy868.wr W26)
      have cy870 := (cy869.wr W34)
      have cy871 := (cy870.wr W45)
      have cy872 := (cy871.wr W55)
      have cy873 := (cy872.wr W68)
      have cy874 := (cy873.wr W80)
      have cy875 := (cy874.wr W95)
      have cy876 := (cy875.wr W109)
      have cy877 := (cy876.wr W126)
      have cy878 := (cy877.wr W142)
      have cy879 := (cy878.wr W161)
      have cy880 := (cy879.wr W179)
      have cy881 := (cy880.wr W200)
      have cy882 := (cy881.wr W220)
      have cy883 := (cy882.wr W243)
      have cy884 := (cy883.wr W265)
      have cy885 := (cy884.wr W290)
      have ne_864_1 : (A 0) ≠ b864 := Nat.ne_of_lt (Nat.lt_of_lt_of_le cy885.lt (Nat.le_of_eq g864.symm))
      have cy886 := (cy10.wr W11)
      have cy887 := (cy886.wr W17)
      have cy888 := (cy887.wr W26)
      have cy889 := (cy888.wr W34)
      have cy890 := (cy889.wr W45)
      have cy891 := (cy890.wr W55)
      have cy892 := (cy891.wr W68)
      have cy893 := (cy892.wr W80)
      have cy894 := (cy893.wr W95)
      have cy895 := (cy894.wr W109)
      have cy896 := (cy895.wr W126)
      have cy897 := (cy896.wr W142)
      have cy898 := (cy897.wr W161)
      have cy899 := (cy898.wr W179)
      have cy900 := (cy899.wr W200)
      have cy901 := (cy900.wr W220)
      have cy902 := (cy901.wr W243)
      have cy903 := (cy902.wr W265)
      have cy904 := (cy903.wr W290)
      have ne_864_2 : (A 1) ≠ b864 := Nat.ne_of_lt (Nat.lt_of_lt_of_le cy904.lt (Nat.le_of_eq g864.symm))
      have cy905 := (cy16.wr W17)
      have cy906 := (cy905.wr W26)
      have cy907 := (cy906.wr W34)
      have cy908 := (cy907.wr W45)
      have cy909 := (cy908.wr W55)
      have cy910 := (cy909.wr W68)
      have cy911 := (cy910.wr W80)
      have cy912 := (cy911.wr W95)
      have cy913 := (cy912.wr W109)
      have cy914 := (cy913.wr W126)
      have cy915 := (cy914.wr W142)
      have cy916 := (cy915.wr W161)
      have cy917 := (cy916.wr W179)
      have cy918 := (cy917.wr W200)
      have cy919 := (cy918.wr W220)
      have cy920 := (cy919.wr W243)
      have cy921 := (cy920.wr W265)
      have cy922 := (cy921.wr W290)
      have ne_864_3 : (A 2) ≠ b864 := Nat.ne_of_lt (Nat.lt_of_lt_of_le cy922.lt (Nat.le_of_eq g864.symm))
      have cy923 := (cy25.wr W26)
      have cy924 := (cy923.wr W34)
      have cy925 := (cy924.wr W45)
      have cy926 := (cy925.wr W55)
      have cy927 := (cy926.wr W68)
      have cy928 := (cy927.wr W80)
      have cy929 := (cy928.wr W95)
      have cy930 := (cy929.wr W109)
      have cy931 := (cy930.wr W126)
      have cy932 := (cy931.wr W142)
      have cy933 := (cy932.wr W161)
      have cy934 := (cy933.wr W179)
      have cy935 := (cy934.wr W200)
      have cy936 := (cy935.wr W220)
      have cy937 := (cy936.wr W243)
      have cy938 := (cy937.wr W265)
      have cy939 := (cy938.wr W290)
      have ne_864_4 : (A 3) ≠ b864 := Nat.ne_of_lt (Nat.lt_of_lt_of_le cy939.lt (Nat.le_of_eq g864.symm))
      have cy940 := (cy33.wr W34)
      have cy941 := (cy940.wr W45)
      have cy942 := (cy941.wr W55)
      have cy943 := (cy942.wr W68)
      have cy944 := (cy943.wr W80)
      have cy945 := (cy944.wr W95)
      have cy946 := (cy945.wr W109)
      have cy947 := (cy946.wr W126)
      have cy948 := (cy947.wr W142)
      have cy949 := (cy948.wr W161)
      have cy950 := (cy949.wr W179)
      have cy951 := (cy950.wr W200)
      have cy952 := (cy951.wr W220)
      have cy953 := (cy952.wr W243)
      have cy954 := (cy953.wr W265)
      have cy955 := (cy954.wr W290)
      have ne_864_5 : (A 4) ≠ b864 := Nat.ne_of_lt (Nat.lt_of_lt_of_le cy955.lt (Nat.le_of_eq g864.symm))
      have cy956 := (cy44.wr W45)
      have cy957 := (cy956.wr W55)
      have cy958 := (cy957.wr W68)
      have cy959 := (cy958.wr W80)
      have cy960 := (cy959.wr W95)
      have cy961 := (cy960.wr W109)
      have cy962 := (cy961.wr W126)
      have cy963 := (cy962.wr W142)
      have cy964 := (cy963.wr W161)
      have cy965 := (cy964.wr W179)
      have cy966 := (cy965.wr W200)
      have cy967 := (cy966.wr W220)
      have cy968 := (cy967.wr W243)
      have cy969 := (cy968.wr W265)
      have cy970 := (cy969.wr W290)
      have ne_864_6 : (A 5) ≠ b864 := Nat.ne_of_lt (Nat.lt_of_lt_of_le cy970.lt (Nat.le_of_eq g864.symm))
      have cy971 := (cy54.wr W55)
      have cy972 := (cy971.wr W68)
      have cy973 := (cy972.wr W80)
      have cy974 := (cy973.wr W95)
      have cy975 := (cy974.wr W109)
      have cy976 := (cy975.wr W126)
      have cy977 := (cy976.wr W142)
      have cy978 := (cy977.wr W161)
      have cy979 := (cy978.wr W179)
      have cy980 := (cy979.wr W200)
      have cy981 := (cy980.wr W220)
      have cy982 := (cy981.wr W243)
      have cy983 := (cy982.wr W265)
      have cy984 := (cy983.wr W290)
      have ne_864_7 : (A 6) ≠ b864 := Nat.ne_of_lt (Nat.lt_of_lt_of_le cy984.lt (Nat.le_of_eq g864.symm))
      have cy985 := (cy67.wr W68)
      have cy986 := (cy985.wr W80)
      have cy987 := (cy986.wr W95)
      have cy988 := (cy987.wr W109)
      have cy989 := (cy988.wr W126)
      have cy990 := (cy989.wr W142)
      have cy991 := (cy990.wr W161)
      have cy992 := (cy991.wr W179)
      have cy993 := (cy992.wr W200)
      have cy994 := (cy993.wr W220)
      have cy995 := (cy994.wr W243)
      have cy996 := (cy995.wr W265)
      have cy997 := (cy996.wr W290)
      have ne_864_8 : (A 7) ≠ b864 := Nat.ne_of_lt (Nat.lt_of_lt_of_le cy997.lt (Nat.le_of_eq g864.symm))
      have cy998 := (cy79.wr W80)
      have cy999 := (cy998.wr W95)
      have cy1000 := (cy999.wr W109)
      have cy1001 := (cy1000.wr W126)
      have cy1002 := (cy1001.wr W142)
      have cy1003 := (cy1002.wr W161)
      have cy1004 := (cy1003.wr W179)
      have cy1005 := (cy1004.wr W200)
      have cy1006 := (cy1005.wr W220)
      have cy1007 := (cy1006.wr W243)
      have cy1008 := (cy1007.wr W265)
      have cy1009 := (cy1008.wr W290)
      have ne_864_9 : (A 8) ≠ b864 := Nat.ne_of_lt (Nat.lt_of_lt_of_le cy1009.lt (Nat.le_of_eq g864.symm))
      have cy1010 := (cy94.wr W95)
      have cy1011 := (cy1010.wr W109)
      have cy1012 := (cy1011.wr W126)
      have cy1013 := (cy1012.wr W142)
      have cy1014 := (cy1013.wr W161)
      have cy1015 := (cy1014.wr W179)
      have cy1016 := (cy1015.wr W200)
      have cy1017 := (cy1016.wr W220)
      have cy1018 := (cy1017.wr W243)
      have cy1019 := (cy1018.wr W265)
      have cy1020 := (cy1019.wr W290)
      have ne_864_10 : (A 9) ≠ b864 := Nat.ne_of_lt (Nat.lt_of_lt_of_le cy1020.lt (Nat.le_of_eq g864.symm))
      have cy1021 := (cy108.wr W109)
      have cy1022 := (cy1021.wr W126)
      have cy1023 := (cy1022.wr W142)
      have cy1024 := (cy1023.wr W161)
      have cy1025 := (cy1024.wr W179)
      have cy1026 := (cy1025.wr W200)
      have cy1027 := (cy1026.wr W220)
      have cy1028 := (cy1027.wr W243)
      have cy1029 := (cy1028.wr W265)
      have cy1030 := (cy1029.wr W290)
      have ne_864_11 : (A 10) ≠ b864 := Nat.ne_of_lt (Nat.lt_of_lt_of_le cy1030.lt (Nat.le_of_eq g864.symm))
      have cy1031 := (cy125.wr W126)
      have cy1032 := (cy1031.wr W142)
      have cy1033 := (cy1032.wr W161)
      have cy1034 := (cy1033.wr W179)
      have cy1035 := (cy1034.wr W200)
      have cy1036 := (cy1035.wr W220)
      have cy1037 := (cy1036.wr W243)
      have cy1038 := (cy1037.wr W265)
      have cy1039 := (cy1038.wr W290)
      have ne_864_12 : (A 11) ≠ b864 := Nat.ne_of_lt (Nat.lt_of_lt_of_le cy1039.lt (Nat.le_of_eq g864.symm))
      have cy1040 := (cy141.wr W142)
      have cy1041 := (cy1040.wr W161)
      have cy1042 := (cy1041.wr W179)
      have cy1043 := (cy1042.wr W200)
      have cy1044 := (cy1043.wr W220)
      have cy1045 := (cy1044.wr W243)
      have cy1046 := (cy1045.wr W265)
      have cy1047 := (cy1046.wr W290)
      have ne_864_13 : (A 12) ≠ b864 := Nat.ne_of_lt (Nat.lt_of_lt_of_le cy1047.lt (Nat.le_of_eq g864.symm))
      have cy1048 := (cy160.wr W161)
      have cy1049 := (cy1048.wr W179)
      have cy1050 := (cy1049.wr W200)
      have cy1051 := (cy1050.wr W220)
      have cy1052 := (cy1051.wr W243)
      have cy1053 := (cy1052.wr W265)
      have cy1054 := (cy1053.wr W290)
      have ne_864_14 : (A 13) ≠ b864 := Nat.ne_of_lt (Nat.lt_of_lt_of_le cy1054.lt (Nat.le_of_eq g864.symm))
      have cy1055 := (cy178.wr W179)
      have cy1056 := (cy1055.wr W200)
      have cy1057 := (cy1056.wr W220)
      have cy1058 := (cy1057.wr W243)
      have cy1059 := (cy1058.wr W265)
      have cy1060 := (cy1059.wr W290)
      have ne_864_15 : (A 14) ≠ b864 := Nat.ne_of_lt (Nat.lt_of_lt_of_le cy1060.lt (Nat.le_of_eq g864.symm))
      have cy1061 := (cy199.wr W200)
      have cy1062 := (cy1061.wr W220)
      have cy1063 := (cy1062.wr W243)
      have cy1064 := (cy1063.wr W265)
      have cy1065 := (cy1064.wr W290)
      have ne_864_16 : (A 15) ≠ b864 := Nat.ne_of_lt (Nat.lt_of_lt_of_le cy1065.lt (Nat.le_of_eq g864.symm))
      have cy1066 := (cy219.wr W220)
      have cy1067 := (cy1066.wr W243)
      have cy1068 := (cy1067.wr W265)
      have cy1069 := (cy1068.wr W290)
      have ne_864_17 : (A 16) ≠ b864 := Nat.ne_of_lt (Nat.lt_of_lt_of_le cy1069.lt (Nat.le_of_eq g864.symm))
      have cy1070 := (cy242.wr W243)
      have cy1071 := (cy1070.wr W265)
      have cy1072 := (cy1071.wr W290)
      have ne_864_18 : (A 17) ≠ b864 := Nat.ne_of_lt (Nat.lt_of_lt_of_le cy1072.lt (Nat.le_of_eq g864.symm))
      have cy1073 := (cy264.wr W265)
      have cy1074 := (cy1073.wr W290)
      have ne_864_19 : (A 18) ≠ b864 := Nat.ne_of_lt (Nat.lt_of_lt_of_le cy1074.lt (Nat.le_of_eq g864.symm))
      have ne_864_20 : (A 19) ≠ b864 := Nat.ne_of_lt (Nat.lt_of_lt_of_le (cy289.wr W290).lt (Nat.le_of_eq g864.symm))
      have ne_864_21 : b1 ≠ b864 := Nat.ne_of_lt (Nat.lt_of_lt_of_le V290.lt (Nat.le_of_eq g864.symm))
      have F864_value : Fld Z h864 b864 "java/lang/String" "value" "[B" .null := D864 (Or.inr (hw _ (List.mem_of_getElem? (i := 68) rfl))) (ty := (.array .byte)) (by decide)
      have F864_coder : Fld Z h864 b864 "java/lang/String" "coder" "B" (.int (0 : Int32)) := D864 (Or.inr (hw _ (List.mem_of_getElem? (i := 70) rfl))) (ty := .byte) (by decide)
      obtain ⟨T1075, h1075, k1075, X1075, e1075, E1075, A1075, st1075⟩ := newP X864 hx hZ (hw _ (List.mem_of_getElem? (i := 94) rfl)) e864 (g := (mkF m 212 #[.val (.int p0), .val (.int p1), .val (.int p2), .val (.int p3), .val (.ref b1), .val (.int v292), .val (.int ((p1 &&& (255 : Int32)).toUInt32.toUInt16.toUInt32.toInt32)), .val (.int ((p2 &&& (255 : Int32)).toUInt32.toUInt16.toUInt32.toInt32)), .val (.int (p3 &&& (3 : Int32))), .unset, .unset, .unset] [(.int (2 : Int32)), (.ref b864), (.ref b864)])) rfl (hb hby at_212) rfl (by decide) (cap := 2) (by decide) (by decide) (by decide) (by decide)
      obtain ⟨b1075, g1075⟩ : ∃ z, z = h864.size := ⟨_, rfl⟩
      rw [← g1075] at A1075 st1075
      have gnb1075 : n0 ≤ b1075 := Nat.le_trans Z864 (Nat.le_of_eq g1075.symm)
      have Z1075 : n0 ≤ h1075.size := Nat.le_trans Z864 E1075.1
      have ne_1075_1 : (A 0) ≠ b1075 := Nat.ne_of_lt (Nat.lt_of_lt_of_le (cy885.ext E864).lt (Nat.le_of_eq g1075.symm))
      have ne_1075_2 : (A 1) ≠ b1075 := Nat.ne_of_lt (Nat.lt_of_lt_of_le (cy904.ext E864).lt (Nat.le_of_eq g1075.symm))
      have ne_1075_3 : (A 2) ≠ b1075 := Nat.ne_of_lt (Nat.lt_of_lt_of_le (cy922.ext E864).lt (Nat.le_of_eq g1075.symm))
      have ne_1075_4 : (A 3) ≠ b1075 := Nat.ne_of_lt (Nat.lt_of_lt_of_le (cy939.ext E864).lt (Nat.le_of_eq g1075.symm))
      have ne_1075_5 : (A 4) ≠ b1075 := Nat.ne_of_lt (Nat.lt_of_lt_of_le (cy955.ext E864).lt (Nat.le_of_eq g1075.symm))
      have ne_1075_6 : (A 5) ≠ b1075 := Nat.ne_of_lt (Nat.lt_of_lt_of_le (cy970.ext E864).lt (Nat.le_of_eq g1075.symm))
      have ne_1075_7 : (A 6) ≠ b1075 := Nat.ne_of_lt (Nat.lt_of_lt_of_le (cy984.ext E864).lt (Nat.le_of_eq g1075.symm))
      have ne_1075_8 : (A 7) ≠ b1075 := Nat.ne_of_lt (Nat.lt_of_lt_of_le (cy997.ext E864).lt (Nat.le_of_eq g1075.symm))
      have ne_1075_9 : (A 8) ≠ b1075 := Nat.ne_of_lt (Nat.lt_of_lt_of_le (cy1009.ext E864).lt (Nat.le_of_eq g1075.symm))
      have ne_1075_10 : (A 9) ≠ b1075 := Nat.ne_of_lt (Nat.lt_of_lt_of_le (cy1020.ext E864).lt (Nat.le_of_eq g1075.symm))
      have ne_1075_11 : (A 10) ≠ b1075 := Nat.ne_of_lt (Nat.lt_of_lt_of_le (cy1030.ext E864).lt (Nat.le_of_eq g1075.symm))
      have ne_1075_12 : (A 11) ≠ b1075 := Nat.ne_of_lt (Nat.lt_of_lt_of_le (cy1039.ext E864).lt (Nat.le_of_eq g1075.symm))
      have ne_1075_13 : (A 12) ≠ b1075 := Nat.ne_of_lt (Nat.lt_of_lt_of_le (cy1047.ext E864).lt (Nat.le_of_eq g1075.symm))
      have ne_1075_14 : (A 13) ≠ b1075 := Nat.ne_of_lt (Nat.lt_of_lt_of_le (cy1054.ext E864).lt (Nat.le_of_eq g1075.symm))
      have ne_1075_15 : (A 14) ≠ b1075 := Nat.ne_of_lt (Nat.lt_of_lt_of_le (cy1060.ext E864).lt (Nat.le_of_eq g1075.symm))
      have ne_1075_16 : (A 15) ≠ b1075 := Nat.ne_of_lt (Nat.lt_of_lt_of_le (cy1065.ext E864).lt (Nat.le_of_eq g1075.symm))
      have ne_1075_17 : (A 16) ≠ b1075 := Nat.ne_of_lt (Nat.lt_of_lt_of_le (cy1069.ext E864).lt (Nat.le_of_eq g1075.symm))
      have ne_1075_18 : (A 17) ≠ b1075 := Nat.ne_of_lt (Nat.lt_of_lt_of_le (cy1072.ext E864).lt (Nat.le_of_eq g1075.symm))
      have ne_1075_19 : (A 18) ≠ b1075 := Nat.ne_of_lt (Nat.lt_of_lt_of_le (cy1074.ext E864).lt (Nat.le_of_eq g1075.symm))
      have cy1076 := (cy289.wr W290)
      have cy1077 := (cy1076.ext E864)
      have ne_1075_20 : (A 19) ≠ b1075 := Nat.ne_of_lt (Nat.lt_of_lt_of_le cy1077.lt (Nat.le_of_eq g1075.symm))
      have ne_1075_21 : b1 ≠ b1075 := Nat.ne_of_lt (Nat.lt_of_lt_of_le (V290.ext E864).lt (Nat.le_of_eq g1075.symm))
      have ne_1075_22 : b864 ≠ b1075 := Nat.ne_of_lt (Nat.lt_of_lt_of_le A864.lt (Nat.le_of_eq g1075.symm))
      have V1075 : Arv Z h1075 b1075 k1075 .char (2 : Int32) [(.int (0 : Int32)), (.int (0 : Int32))] (.int (0 : Int32)) := (Arv.new A1075 (by decide)).pad (pad_rep [] (.int (0 : Int32)) 2)
      obtain ⟨cl1078, Ar1078, qq1078, S1078, M1078, H1078, G1078⟩ := id V1075
      have hin1078 : ¬ ((0 : Int32) < 0 ∨ cl1078.slots.size ≤ ((0 : Int32)).toNatClampNeg) := inb_of S1078 ⟨by decide, by decide⟩
      obtain ⟨T1079, h1079, X1079, e1079, W1079, st1079⟩ := stC X1075 hx hZ e1075 Ar1078 (j := (0 : Int32)) hin1078 (g := (mkF m 218 #[.val (.int p0), .val (.int p1), .val (.int p2), .val (.int p3), .val (.ref b1), .val (.int v292), .val (.int ((p1 &&& (255 : Int32)).toUInt32.toUInt16.toUInt32.toInt32)), .val (.int ((p2 &&& (255 : Int32)).toUInt32.toUInt16.toUInt32.toInt32)), .val (.int (p3 &&& (3 : Int32))), .unset, .unset, .unset] [(.int ((p1 &&& (255 : Int32)).toUInt32.toUInt16.toUInt32.toInt32)), (.int (0 : Int32)), (.ref b1075), (.ref b1075), (.ref b864), (.ref b864)])) rfl rfl (hb hby at_218)
      have V1079 : Arv Z h1079 b1075 k1075 .char (2 : Int32) [(.int (((p1 &&& (255 : Int32)).toUInt32.toUInt16.toUInt32.toInt32).toUInt32.toUInt16.toUInt32.toInt32)), (.int (0 : Int32))] _ := Arv.set Ar1078 qq1078 S1078 M1078 H1078 G1078 (fits_nar_char _) W1079 0 rfl (Nat.le_of_ble_eq_true rfl)
      have N1079 := Fr.snoc X1079 N290 gnb1075
      have Z1079 : n0 ≤ h1079.size := Nat.le_trans Z1075 (Nat.le_of_eq W1079.size.symm)
      obtain ⟨cl1080, Ar1080, qq1080, S1080, M1080, H1080, G1080⟩ := id V1079
      have hin1080 : ¬ ((1 : Int32) < 0 ∨ cl1080.slots.size ≤ ((1 : Int32)).toNatClampNeg) := inb_of S1080 ⟨by decide, by decide⟩
      obtain ⟨T1081, h1081, X1081, e1081, W1081, st1081⟩ := stC X1079 hx hZ e1079 Ar1080 (j := (1 : Int32)) hin1080 (g := (mkF m 223 #[.val (.int p0), .val (.int p1), .val (.int p2), .val (.int p3), .val (.ref b1), .val (.int v292), .val (.int ((p1 &&& (255 : Int32)).toUInt32.toUInt16.toUInt32.toInt32)), .val (.int ((p2 &&& (255 : Int32)).toUInt32.toUInt16.toUInt32.toInt32)), .val (.int (p3 &&& (3 : Int32))), .unset, .unset, .unset] [(.int ((p2 &&& (255 : Int32)).toUInt32.toUInt16.toUInt32.toInt32)), (.int (1 : Int32)), (.ref b1075), (.ref b1075), (.ref b864), (.ref b864)])) rfl rfl (hb hby at_223)
      have V1081 : Arv Z h1081 b1075 k1075 .char (2 : Int32) [(.int (((p1 &&& (255 : Int32)).toUInt32.toUInt16.toUInt32.toInt32).toUInt32.toUInt16.toUInt32.toInt32)), (.int (((p2 &&& (255 : Int32)).toUInt32.toUInt16.toUInt32.toInt32).toUInt32.toUInt16.toUInt32.toInt32))] _ := Arv.set Ar1080 qq1080 S1080 M1080 H1080 G1080 (fits_nar_char _) W1081 1 rfl (Nat.le_of_ble_eq_true rfl)
      have N1081 := Fr.snoc X1081 N1079 gnb1075
      have Z1081 : n0 ≤ h1081.size := Nat.le_trans Z1079 (Nat.le_of_eq W1081.size.symm)
      have cy1083 := (A864.ext E1075)
      have cy1084 := (cy1083.wr W1079)
      have cy1085 := (cy1084.wr W1081)
      have cy1086 := (F864_value.ext E1075)
      have cy1087 := (cy1086.other W1079 (Or.inl ne_1075_22))
      have cy1088 := (cy1087.other W1081 (Or.inl ne_1075_22))
      have cy1089 := (F864_coder.ext E1075)
      have cy1090 := (cy1089.other W1079 (Or.inl ne_1075_22))
      have cy1091 := (cy1090.other W1081 (Or.inl ne_1075_22))
      have cy1092 := (cy267.wr W290 gnb1)
      have cy1093 := (cy1092.ext E864)
      have cy1094 := (cy1093.ext E1075)
      have cy1095 := (cy1094.wr W1079 gnb1075)
      have cy1096 := (cy1095.wr W1081 gnb1075)
      obtain ⟨_, _, ⟨T1082, L1082, k1082, n1082⟩, -, X1082, ⟨Lc1082, hQ1082, l1082, y1082, z1082⟩, st1082⟩ := X1081.specialBack hx (y := (⟨"java/lang/String", "<init>", "([C)V"⟩ : MethodName)) rfl hown (mvT hZ (hw _ (List.mem_of_getElem? (i := 95) rfl))) (mvT hZ (hw _ (List.mem_of_getElem? (i := 96) rfl))) (mvT hZ (hw _ (List.mem_of_getElem? (i := 97) rfl))) (by decide) (backOf (W := 1) (rm9t l Z a0 hw [] b864 b1075 k1075 (((p1 &&& (255 : Int32)).toUInt32.toUInt16.toUInt32.toInt32).toUInt32.toUInt16.toUInt32.toInt32) (((p2 &&& (255 : Int32)).toUInt32.toUInt16.toUInt32.toInt32).toUInt32.toUInt16.toUInt32.toInt32) _ cs h1081 n0 Z1081 cy1085 gnb864 cy1088 cy1091 V1081 (own_cl p1) (own_cl p2) (SCS.ext cy1096.2) hcs) hZ (hw _ (List.mem_of_getElem? (i := 97) rfl)) (hw _ (List.mem_of_getElem? (i := 47) rfl)) (by decide) (by decide)) (g := (mkF m 224 #[.val (.int p0), .val (.int p1), .val (.int p2), .val (.int p3), .val (.ref b1), .val (.int v292), .val (.int ((p1 &&& (255 : Int32)).toUInt32.toUInt16.toUInt32.toInt32)), .val (.int ((p2 &&& (255 : Int32)).toUInt32.toUInt16.toUInt32.toInt32)), .val (.int (p3 &&& (3 : Int32))), .unset, .unset, .unset] [(.ref b1075), (.ref b864), (.ref b864)])) rfl (by rw [hml]; rfl) (Steps.refl _) (a := b864) (argsL := [(.ref b1075)]) (rest := [(.ref b864)]) (lenOf pd_8 rfl) rfl (by show 2 * 0 + _ ≤ _; exact Nat.le_of_eq rfl) (hb hby at_224) (fun _ _ => ⟨rfl, e1081, (by decide : 3 + 1 ≤ _), (by decide : 26 + 2 ≤ _)⟩)
      dsimp only [Pt.U, Pt.locs, Pt.cells, Pt.slots] at X1082 l1082 y1082 z1082 st1082 hQ1082
      rw [l1082, y1082, z1082] at X1082
      obtain ⟨rfl, N1082q, K1082q⟩ := hQ1082
      have N1082 := Fr.app N1081 N1082q
      have Z1082 : n0 ≤ T1082.heap.size := Nat.le_trans Z1081 K1082q.1
      obtain ⟨T1097, h1097, X1097, e1097, E1097, A1097, D1097, -, st1097⟩ := newO X1082 hx hZ hown (hw _ (List.mem_of_getElem? (i := 71) rfl)) (hw _ (List.mem_of_getElem? (i := 72) rfl)) (hw _ (List.mem_of_getElem? (i := 73) rfl)) rfl (g := (mkF m 229 #[.val (.int p0), .val (.int p1), .val (.int p2), .val (.int p3), .val (.ref b1), .val (.int v292), .val (.int ((p1 &&& (255 : Int32)).toUInt32.toUInt16.toUInt32.toInt32)), .val (.int ((p2 &&& (255 : Int32)).toUInt32.toUInt16.toUInt32.toInt32)), .val (.int (p3 &&& (3 : Int32))), .val (.ref b864), .unset, .unset] [])) rfl (hb hby at_229) (by decide) (by decide)
      obtain ⟨b1097, g1097⟩ : ∃ z, z = T1082.heap.size := ⟨_, rfl⟩
      rw [← g1097] at A1097 D1097 st1097
      have gnb1097 : n0 ≤ b1097 := Nat.le_trans Z1082 (Nat.le_of_eq g1097.symm)
      have Z1097 : n0 ≤ h1097.size := Nat.le_trans Z1082 E1097.1
      have cy1098 := (cy885.ext E864)
      have cy1099 := (cy1098.ext E1075)
      have cy1100 := (cy1099.wr W1079)
      have cy1101 := (cy1100.wr W1081)
      have cy1102 := (cy1101.keep K1082q)
      have ne_1097_1 : (A 0) ≠ b1097 := Nat.ne_of_lt (Nat.lt_of_lt_of_le cy1102.lt (Nat.le_of_eq g1097.symm))
      have cy1103 := (cy904.ext E864)
      have cy1104 := (cy1103.ext E1075)
      have cy1105 := (cy1104.wr W1079)
      have cy1106 := (cy1105.wr W1081)
      have cy1107 := (cy1106.keep K1082q)
      have ne_1097_2 : (A 1) ≠ b1097 := Nat.ne_of_lt (Nat.lt_of_lt_of_le cy1107.lt (Nat.le_of_eq g1097.symm))
      have cy1108 := (cy922.ext E864)
      have cy1109 := (cy1108.ext E1075)
      have cy1110 := (cy1109.wr W1079)
      have cy1111 := (cy1110.wr W1081)
      have cy1112 := (cy1111.keep K1082q)
      have ne_1097_3 : (A 2) ≠ b1097 := Nat.ne_of_lt (Nat.lt_of_lt_of_le cy1112.lt (Nat.le_of_eq g1097.symm))
      have cy1113 := (cy939.ext E864)
      have cy1114 := (cy1113.ext E1075)
      have cy1115 := (cy1114.wr W1079)
      have cy1116 := (cy1115.wr W1081)
      have cy1117 := (cy1116.keep K1082q)
      have ne_1097_4 : (A 3) ≠ b1097 := Nat.ne_of_lt (Nat.lt_of_lt_of_le cy1117.lt (Nat.le_of_eq g1097.symm))
      have cy1118 := (cy955.ext E864)
      have cy1119 := (cy1118.ext E1075)
      have cy1120 := (cy1119.wr W1079)
      have cy1121 := (cy1120.wr W1081)
      have cy1122 := (cy1121.keep K1082q)
      have ne_1097_5 : (A 4) ≠ b1097 := Nat.ne_of_lt (Nat.lt_of_lt_of_le cy1122.lt (Nat.le_of_eq g1097.symm))
      have cy1123 := (cy970.ext E864)
      have cy1124 := (cy1123.ext E1075)
      have cy1125 := (cy1124.wr W1079)
      have cy1126 := (cy1125.wr W1081)
      have cy1127 := (cy1126.keep K1082q)
      have ne_1097_6 : (A 5) ≠ b1097 := Nat.ne_of_lt (Nat.lt_of_lt_of_le cy1127.lt (Nat.le_of_eq g1097.symm))
      have cy1128 := (cy984.ext E864)
      have cy1129 := (cy1128.ext E1075)
      have cy1130 := (cy1129.wr W1079)
      have cy1131 := (cy1130.wr W1081)
      have cy1132 := (cy1131.keep K1082q)
      have ne_1097_7 : (A 6) ≠ b1097 := Nat.ne_of_lt (Nat.lt_of_lt_of_le cy1132.lt (Nat.le_of_eq g1097.symm))
      have cy1133 := (cy997.ext E864)
      have cy1134 := (cy1133.ext E1075)
      have cy1135 := (cy1134.wr W1079)
      have cy1136 := (cy1135.wr W1081)
      have cy1137 := (cy1136.keep K1082q)
      have ne_1097_8 : (A 7) ≠ b1097 := Nat.ne_of_lt (Nat.lt_of_lt_of_le cy1137.lt (Nat.le_of_eq g1097.symm))
      have cy1138 := (cy1009.ext E864)
      have cy1139 := (cy1138.ext E1075)
      have cy1140 := (cy1139.wr W1079)
      have cy1141 := (cy1140.wr W1081)
      have cy1142 := (cy1141.keep K1082q)
      have ne_1097_9 : (A 8) ≠ b1097 := Nat.ne_of_lt (Nat.lt_of_lt_of_le cy1142.lt (Nat.le_of_eq g1097.symm))
      have cy1143 := (cy1020.ext E864)
      have cy1144 := (cy1143.ext E1075)
      have cy1145 := (cy1144.wr W1079)
      have cy1146 := (cy1145.wr W1081)
      have cy1147 := (cy1146.keep K1082q)
      have ne_1097_10 : (A 9) ≠ b1097 := Nat.ne_of_lt (Nat.lt_of_lt_of_le cy1147.lt (Nat.le_of_eq g1097.symm))
      have cy1148 := (cy1030.ext E864)
      have cy1149 := (cy1148.ext E1075)
      have cy1150 := (cy1149.wr W1079)
      have cy1151 := (cy1150.wr W1081)
      have cy1152 := (cy1151.keep K1082q)
      have ne_1097_11 : (A 10) ≠ b1097 := Nat.ne_of_lt (Nat.lt_of_lt_of_le cy1152.lt (Nat.le_of_eq g1097.symm))
      have cy1153 := (cy1039.ext E864)
      have cy1154 := (cy1153.ext E1075)
      have cy1155 := (cy1154.wr W1079)
      have cy1156 := (cy1155.wr W1081)
      have cy1157 := (cy1156.keep K1082q)
      have ne_1097_12 : (A 11) ≠ b1097 := Nat.ne_of_lt (Nat.lt_of_lt_of_le cy1157.lt (Nat.le_of_eq g1097.symm))
      have cy1158 := (cy1047.ext E864)
      have cy1159 := (cy1158.ext E1075)
      have cy1160 := (cy1159.wr W1079)
      have cy1161 := (cy1160.wr W1081)
      have cy1162 := (cy1161.keep K1082q)
      have ne_1097_13 : (A 12) ≠ b1097 := Nat.ne_of_lt (Nat.lt_of_lt_of_le cy1162.lt (Nat.le_of_eq g1097.symm))
      have cy1163 := (cy1054.ext E864)
      have cy1164 := (cy1163.ext E1075)
      have cy1165 := (cy1164.wr W1079)
      have cy1166 := (cy1165.wr W1081)
      have cy1167 := (cy1166.keep K1082q)
      have ne_1097_14 : (A 13) ≠ b1097 := Nat.ne_of_lt (Nat.lt_of_lt_of_le cy1167.lt (Nat.le_of_eq g1097.symm))
      have cy1168 := (cy1060.ext E864)
      have cy1169 := (cy1168.ext E1075)
      have cy1170 := (cy1169.wr W1079)
      have cy1171 := (cy1170.wr W1081)
      have cy1172 := (cy1171.keep K1082q)
      have ne_1097_15 : (A 14) ≠ b1097 := Nat.ne_of_lt (Nat.lt_of_lt_of_le cy1172.lt (Nat.le_of_eq g1097.symm))
      have cy1173 := (cy1065.ext E864)
      have cy1174 := (cy1173.ext E1075)
      have cy1175 := (cy1174.wr W1079)
      have cy1176 := (cy1175.wr W1081)
      have cy1177 := (cy1176.keep K1082q)
      have ne_1097_16 : (A 15) ≠ b1097 := Nat.ne_of_lt (Nat.lt_of_lt_of_le cy1177.lt (Nat.le_of_eq g1097.symm))
      have cy1178 := (cy1069.ext E864)
      have cy1179 := (cy1178.ext E1075)
      have cy1180 := (cy1179.wr W1079)
      have cy1181 := (cy1180.wr W1081)
      have cy1182 := (cy1181.keep K1082q)
      have ne_1097_17 : (A 16) ≠ b1097 := Nat.ne_of_lt (Nat.lt_of_lt_of_le cy1182.lt (Nat.le_of_eq g1097.symm))
      have cy1183 := (cy1072.ext E864)
      have cy1184 := (cy1183.ext E1075)
      have cy1185 := (cy1184.wr W1079)
      have cy1186 := (cy1185.wr W1081)
      have cy1187 := (cy1186.keep K1082q)
      have ne_1097_18 : (A 17) ≠ b1097 := Nat.ne_of_lt (Nat.lt_of_lt_of_le cy1187.lt (Nat.le_of_eq g1097.symm))
      have cy1188 := (cy1074.ext E864)
      have cy1189 := (cy1188.ext E1075)
      have cy1190 := (cy1189.wr W1079)
      have cy1191 := (cy1190.wr W1081)
      have cy1192 := (cy1191.keep K1082q)
      have ne_1097_19 : (A 18) ≠ b1097 := Nat.ne_of_lt (Nat.lt_of_lt_of_le cy1192.lt (Nat.le_of_eq g1097.symm))
      have cy1193 := (cy1077.ext E1075)
      have cy1194 := (cy1193.wr W1079)
      have cy1195 := (cy1194.wr W1081)
      have cy1196 := (cy1195.keep K1082q)
      have ne_1097_20 : (A 19) ≠ b1097 := Nat.ne_of_lt (Nat.lt_of_lt_of_le cy1196.lt (Nat.le_of_eq g1097.symm))
      have cy1197 := (V290.ext E864)
      have cy1198 := (cy1197.ext E1075)
      have cy1199 := (cy1198.other W1079 ne_1075_21)
      have cy1200 := (cy1199.other W1081 ne_1075_21)
      have cy1201 := (cy1200.keep K1082q (fun hq => ne_864_21 (List.mem_singleton.mp hq)))
      have ne_1097_21 : b1 ≠ b1097 := Nat.ne_of_lt (Nat.lt_of_lt_of_le cy1201.lt (Nat.le_of_eq g1097.symm))
      have ne_1097_22 : b864 ≠ b1097 := Nat.ne_of_lt (Nat.lt_of_lt_of_le (cy1085.keep K1082q).lt (Nat.le_of_eq g1097.symm))
      have ne_1097_23 : b1075 ≠ b1097 := Nat.ne_of_lt (Nat.lt_of_lt_of_le (V1081.keep K1082q (fun hq => (Ne.symm ne_1075_22) (List.mem_singleton.mp hq))).lt (Nat.le_of_eq g1097.symm))
      have F1097_kind : Fld Z h1097 b1097 "com/example/formula_to_count/formulatocount/ProbLogReader$Argument" "kind" "Lcom/example/formula_to_count/formulatocount/Tokens$Kind;" .null := D1097 (Or.inr (hw _ (List.mem_of_getElem? (i := 84) rfl))) (ty := (.object "com/example/formula_to_count/formulatocount/Tokens$Kind")) (by decide)
      have F1097_text : Fld Z h1097 b1097 "com/example/formula_to_count/formulatocount/ProbLogReader$Argument" "text" "Ljava/lang/String;" .null := D1097 (Or.inr (hw _ (List.mem_of_getElem? (i := 86) rfl))) (ty := (.object "java/lang/String")) (by decide)
      obtain ⟨cl1202, Ar1202, qq1202, S1202, M1202, H1202, G1202⟩ := id (cy1201.ext E1097)
      have hin1202 : ¬ (v292 < 0 ∨ cl1202.slots.size ≤ (v292).toNatClampNeg) := fun q => q.elim (own_neg eqj) fun q2 => by rw [S1202, own_clamp eqj, own_20] at q2; exact absurd ltj (Nat.not_lt.mpr q2)
      have hat1202 : cl1202.slots[(v292).toNatClampNeg]? = some (.ref (A nj)) := by rw [own_clamp eqj, H1202 nj (by rw [S1202, own_20]; exact ltj), own_g A nj ltj]
      obtain ⟨_, _, ⟨T1203, L1203, k1203, n1203⟩, -, X1203, ⟨Lc1203, hQ1203, l1203, y1203, z1203⟩, st1203⟩ := X1097.specialBack hx (y := (⟨"com/example/formula_to_count/formulatocount/ProbLogReader$Argument", "<init>", "(Lcom/example/formula_to_count/formulatocount/Tokens$Kind;Ljava/lang/String;)V"⟩ : MethodName)) rfl hown (mvT hZ (hw _ (List.mem_of_getElem? (i := 74) rfl))) (mvT hZ (hw _ (List.mem_of_getElem? (i := 75) rfl))) (mvT hZ (hw _ (List.mem_of_getElem? (i := 76) rfl))) (by decide) (backOf (W := 1) (rm6 l Z a0 hw [] b1097 (A nj) b864 h1097 n0 Z1097 A1097 gnb1097 F1097_kind F1097_text) hZ (hw _ (List.mem_of_getElem? (i := 76) rfl)) (hw _ (List.mem_of_getElem? (i := 73) rfl)) (by decide) (by decide)) (g := (mkF m 240 #[.val (.int p0), .val (.int p1), .val (.int p2), .val (.int p3), .val (.ref b1), .val (.int v292), .val (.int ((p1 &&& (255 : Int32)).toUInt32.toUInt16.toUInt32.toInt32)), .val (.int ((p2 &&& (255 : Int32)).toUInt32.toUInt16.toUInt32.toInt32)), .val (.int (p3 &&& (3 : Int32))), .val (.ref b864), .unset, .unset] [(.ref b864), (.ref (A nj)), (.ref b1097), (.ref b1097)])) rfl (by rw [hml]; rfl) (Steps.refl _) (a := b1097) (argsL := [(.ref (A nj)), (.ref b864)]) (rest := [(.ref b1097)]) (lenOf pd_9 rfl) rfl (by show 2 * 0 + _ ≤ _; exact Nat.le_of_eq rfl) (hb hby at_240) (fun _ _ => ⟨rfl, e1097, (by decide : 5 + 0 ≤ _), (by decide : 30 + 0 ≤ _)⟩)
      dsimp only [Pt.U, Pt.locs, Pt.cells, Pt.slots] at X1203 l1203 y1203 z1203 st1203 hQ1203
      rw [l1203, y1203, z1203] at X1203
      obtain ⟨rfl, N1203q, K1203q, EI1203, FI1203⟩ := hQ1203
      have N1203 := Fr.app N1082 N1203q
      have Z1203 : n0 ≤ T1203.heap.size := Nat.le_trans Z1097 K1203q.1
      have K1204 : ∀ target, Steps p.tables e below (T1203.setTop (mkF m 248 #[.val (.int p0), .val (.int p1), .val (.int p2), .val (.int p3), .val (.ref b1), .val (.int v292), .val (.int ((p1 &&& (255 : Int32)).toUInt32.toUInt16.toUInt32.toInt32)), .val (.int ((p2 &&& (255 : Int32)).toUInt32.toUInt16.toUInt32.toInt32)), .val (.int (p3 &&& (3 : Int32))), .val (.ref b864), .val (.ref b1097), .unset] [(.int (1 : Int32)), (.int v292)])) target → Steps p.tables e below (T290.setTop (mkF m 207 #[.val (.int p0), .val (.int p1), .val (.int p2), .val (.int p3), .val (.ref b1), .val (.int v292), .val (.int ((p1 &&& (255 : Int32)).toUInt32.toUInt16.toUInt32.toInt32)), .val (.int ((p2 &&& (255 : Int32)).toUInt32.toUInt16.toUInt32.toInt32)), .val (.int (p3 &&& (3 : Int32))), .unset, .unset, .unset] [])) target := by
        intro target kt
        show Steps p.tables e below (T290.setTop (mkF m 207 #[.val (.int p0), .val (.int p1), .val (.int p2), .val (.int p3), .val (.ref b1), .val (.int v292), .val (.int ((p1 &&& (255 : Int32)).toUInt32.toUInt16.toUInt32.toInt32)), .val (.int ((p2 &&& (255 : Int32)).toUInt32.toUInt16.toUInt32.toInt32)), .val (.int (p3 &&& (3 : Int32))), .unset, .unset, .unset] [])) _
        refine st864 _ ?_
        refine XS.dup X864.here hx rfl (hb hby at_210) rfl rfl ?_
        refine XS.iconst X864.here hx rfl (hb hby at_211) ?_
        refine st1075 _ ?_
        show Steps p.tables e below (T1075.setTop (mkF m 214 #[.val (.int p0), .val (.int p1), .val (.int p2), .val (.int p3), .val (.ref b1), .val (.int v292), .val (.int ((p1 &&& (255 : Int32)).toUInt32.toUInt16.toUInt32.toInt32)), .val (.int ((p2 &&& (255 : Int32)).toUInt32.toUInt16.toUInt32.toInt32)), .val (.int (p3 &&& (3 : Int32))), .unset, .unset, .unset] [(.ref b1075), (.ref b864), (.ref b864)])) _
        refine XS.dup X1075.here hx rfl (hb hby at_214) rfl rfl ?_
        refine XS.iconst X1075.here hx rfl (hb hby at_215) ?_
        refine XS.iload X1075.here hx rfl (hb hby at_216) rfl ?_
        refine st1079 _ ?_
        show Steps p.tables e below (T1079.setTop (mkF m 219 #[.val (.int p0), .val (.int p1), .val (.int p2), .val (.int p3), .val (.ref b1), .val (.int v292), .val (.int ((p1 &&& (255 : Int32)).toUInt32.toUInt16.toUInt32.toInt32)), .val (.int ((p2 &&& (255 : Int32)).toUInt32.toUInt16.toUInt32.toInt32)), .val (.int (p3 &&& (3 : Int32))), .unset, .unset, .unset] [(.ref b1075), (.ref b864), (.ref b864)])) _
        refine XS.dup X1079.here hx rfl (hb hby at_219) rfl rfl ?_
        refine XS.iconst X1079.here hx rfl (hb hby at_220) ?_
        refine XS.iload X1079.here hx rfl (hb hby at_221) rfl ?_
        refine st1081 _ ?_
        show Steps p.tables e below (T1081.setTop (mkF m 224 #[.val (.int p0), .val (.int p1), .val (.int p2), .val (.int p3), .val (.ref b1), .val (.int v292), .val (.int ((p1 &&& (255 : Int32)).toUInt32.toUInt16.toUInt32.toInt32)), .val (.int ((p2 &&& (255 : Int32)).toUInt32.toUInt16.toUInt32.toInt32)), .val (.int (p3 &&& (3 : Int32))), .unset, .unset, .unset] [(.ref b1075), (.ref b864), (.ref b864)])) _
        refine st1082.trans ?_
        refine XS.astore X1082.here hx rfl (hb hby at_227) rfl rfl (l' := #[.val (.int p0), .val (.int p1), .val (.int p2), .val (.int p3), .val (.ref b1), .val (.int v292), .val (.int ((p1 &&& (255 : Int32)).toUInt32.toUInt16.toUInt32.toInt32)), .val (.int ((p2 &&& (255 : Int32)).toUInt32.toUInt16.toUInt32.toInt32)), .val (.int (p3 &&& (3 : Int32))), .val (.ref b864), .unset, .unset]) rfl ?_
        refine st1097 _ ?_
        refine XS.dup X1097.here hx rfl (hb hby at_232) rfl rfl ?_
        show Steps p.tables e below (T1097.setTop (mkF m 233 #[.val (.int p0), .val (.int p1), .val (.int p2), .val (.int p3), .val (.ref b1), .val (.int v292), .val (.int ((p1 &&& (255 : Int32)).toUInt32.toUInt16.toUInt32.toInt32)), .val (.int ((p2 &&& (255 : Int32)).toUInt32.toUInt16.toUInt32.toInt32)), .val (.int (p3 &&& (3 : Int32))), .val (.ref b864), .unset, .unset] [(.ref b1097), (.ref b1097)])) _
        refine XS.aload X1097.here hx rfl (hb hby at_233) rfl rfl ?_
        refine XS.iload X1097.here hx rfl (hb hby at_235) rfl ?_
        refine X1097.aaload hx (j := v292) (v := (.ref (A nj))) (by rw [e1097]; exact Ar1202.1) (State.isArrayOf_alike hZ.alike Ar1202.2.1) rfl Ar1202.2.2 hin1202 hat1202 (g := (mkF m 237 #[.val (.int p0), .val (.int p1), .val (.int p2), .val (.int p3), .val (.ref b1), .val (.int v292), .val (.int ((p1 &&& (255 : Int32)).toUInt32.toUInt16.toUInt32.toInt32)), .val (.int ((p2 &&& (255 : Int32)).toUInt32.toUInt16.toUInt32.toInt32)), .val (.int (p3 &&& (3 : Int32))), .val (.ref b864), .unset, .unset] [(.int v292), (.ref b1), (.ref b1097), (.ref b1097)])) rfl rfl (hb hby at_237) _ ?_
        refine XS.aload X1097.here hx rfl (hb hby at_238) rfl rfl ?_
        show Steps p.tables e below (T1097.setTop (mkF m 240 #[.val (.int p0), .val (.int p1), .val (.int p2), .val (.int p3), .val (.ref b1), .val (.int v292), .val (.int ((p1 &&& (255 : Int32)).toUInt32.toUInt16.toUInt32.toInt32)), .val (.int ((p2 &&& (255 : Int32)).toUInt32.toUInt16.toUInt32.toInt32)), .val (.int (p3 &&& (3 : Int32))), .val (.ref b864), .unset, .unset] [(.ref b864), (.ref (A nj)), (.ref b1097), (.ref b1097)])) _
        refine st1203.trans ?_
        refine XS.astore X1203.here hx rfl (hb hby at_243) rfl rfl (l' := #[.val (.int p0), .val (.int p1), .val (.int p2), .val (.int p3), .val (.ref b1), .val (.int v292), .val (.int ((p1 &&& (255 : Int32)).toUInt32.toUInt16.toUInt32.toInt32)), .val (.int ((p2 &&& (255 : Int32)).toUInt32.toUInt16.toUInt32.toInt32)), .val (.int (p3 &&& (3 : Int32))), .val (.ref b864), .val (.ref b1097), .unset]) rfl ?_
        refine XS.iload X1203.here hx rfl (hb hby at_245) rfl ?_
        refine XS.iconst X1203.here hx rfl (hb hby at_247) ?_
        exact kt
      refine Done.of ?_ K1204
      by_cases hc248_1205 : v292 = (1 : Int32)
      · have K : ∀ target, Steps p.tables e below (T1203.setTop (mkF m 251 #[.val (.int p0), .val (.int p1), .val (.int p2), .val (.int p3), .val (.ref b1), .val (.int v292), .val (.int ((p1 &&& (255 : Int32)).toUInt32.toUInt16.toUInt32.toInt32)), .val (.int ((p2 &&& (255 : Int32)).toUInt32.toUInt16.toUInt32.toInt32)), .val (.int (p3 &&& (3 : Int32))), .val (.ref b864), .val (.ref b1097), .unset] [])) target → Steps p.tables e below (T1203.setTop (mkF m 248 #[.val (.int p0), .val (.int p1), .val (.int p2), .val (.int p3), .val (.ref b1), .val (.int v292), .val (.int ((p1 &&& (255 : Int32)).toUInt32.toUInt16.toUInt32.toInt32)), .val (.int ((p2 &&& (255 : Int32)).toUInt32.toUInt16.toUInt32.toInt32)), .val (.int (p3 &&& (3 : Int32))), .val (.ref b864), .val (.ref b1097), .unset] [(.int (1 : Int32)), (.int v292)])) target := by
          intro target kt
          refine XS.icmpNo X1203.here hx rfl (hb hby at_248) rfl (teq hc248_1205).2 ?_
          exact kt
        refine Done.of ?_ K
        have cy1206 := (cy1096.keep K1082q (allS gnb864 all0))
        have cy1207 := (cy1206.ext E1097)
        have cy1208 := (cy1207.keep K1203q (allS gnb1097 all0))
        obtain ⟨cq1209, kq1209, q1209a, q1209b, q1209c⟩ := isOf hZ rfl EI1203
        obtain ⟨_, _, ⟨T1209, L1209, k1209, n1209⟩, -, X1209, ⟨Lc1209, hQ1209, l1209, y1209, z1209⟩, st1209⟩ := X1203.virtualBack hx (y := (⟨"com/example/formula_to_count/formulatocount/ProbLogReader$Argument", "isVariable", "()Z"⟩ : MethodName)) (z := (⟨"com/example/formula_to_count/formulatocount/ProbLogReader$Argument", "isVariable", "()Z"⟩ : MethodName)) hown (mvT hZ (hw _ (List.mem_of_getElem? (i := 87) rfl))) (mvT hZ (hw _ (List.mem_of_getElem? (i := 88) rfl))) (notFace_of_selects (args := #[]) (mvT hZ (hw _ (List.mem_of_getElem? (i := 90) rfl)))) (mvT hZ (hw _ (List.mem_of_getElem? (i := 90) rfl))) (mvT hZ (hw _ (List.mem_of_getElem? (i := 89) rfl))) (by decide) (backOf (W := 0) (rm8s l Z a0 hw [] b1097 (A nj) (A 1) T1203.heap n0 Z1203 FI1203 (Sk1.ext cy1208.2) (congrArg A (show nj = 1 by have q := congrArg Int32.toInt hc248_1205; rw [eqj, show (1 : Int32).toInt = 1 from by decide] at q; omega))) hZ (hw _ (List.mem_of_getElem? (i := 91) rfl)) (hw _ (List.mem_of_getElem? (i := 73) rfl)) (by decide) (by decide)) q1209a q1209c (g := (mkF m 260 #[.val (.int p0), .val (.int p1), .val (.int p2), .val (.int p3), .val (.ref b1), .val (.int v292), .val (.int ((p1 &&& (255 : Int32)).toUInt32.toUInt16.toUInt32.toInt32)), .val (.int ((p2 &&& (255 : Int32)).toUInt32.toUInt16.toUInt32.toInt32)), .val (.int (p3 &&& (3 : Int32))), .val (.ref b864), .val (.ref b1097), .val (.int (1 : Int32))] [(.ref b1097)])) rfl (by rw [hml]; rfl) (Steps.refl _) (argsL := []) (rest := []) (lenOf pd_10 rfl) rfl (by show 2 * 0 + _ ≤ _; exact Nat.le_of_eq rfl) (hb hby at_260) (fun _ _ => ⟨rfl, rfl, (by decide : 5 + 0 ≤ _), (by decide : 30 + 0 ≤ _)⟩)
        dsimp only [Pt.U, Pt.locs, Pt.cells, Pt.slots] at X1209 l1209 y1209 z1209 st1209 hQ1209
        rw [l1209, y1209, z1209] at X1209
        obtain ⟨rfl, N1209q, e1209⟩ := hQ1209
        have N1209 := Fr.app N1203 N1209q
        obtain ⟨fs, hr, hrun, hended, hEnd⟩ := X1209.leaveW hS0 (by rw [e1209]; exact (Nat.zero_le _)) (v := some (.int (1 : Int32))) (fun h => by rw [Bd.returns] at h; cases h)
        refine ⟨_, _, ?_, hrun, hended, _, _, rfl, ?_, hEnd.1, hEnd.2.1, hEnd.2.2.1, hEnd.2.2.2.mono (by decide) (by decide)⟩
        · show Steps p.tables e below (T1203.setTop (mkF m 251 #[.val (.int p0), .val (.int p1), .val (.int p2), .val (.int p3), .val (.ref b1), .val (.int v292), .val (.int ((p1 &&& (255 : Int32)).toUInt32.toUInt16.toUInt32.toInt32)), .val (.int ((p2 &&& (255 : Int32)).toUInt32.toUInt16.toUInt32.toInt32)), .val (.int (p3 &&& (3 : Int32))), .val (.ref b864), .val (.ref b1097), .unset] [])) _
          refine XS.iconst X1203.here hx rfl (hb hby at_251) ?_
          show Steps p.tables e below (T1203.setTop (mkF m 252 #[.val (.int p0), .val (.int p1), .val (.int p2), .val (.int p3), .val (.ref b1), .val (.int v292), .val (.int ((p1 &&& (255 : Int32)).toUInt32.toUInt16.toUInt32.toInt32)), .val (.int ((p2 &&& (255 : Int32)).toUInt32.toUInt16.toUInt32.toInt32)), .val (.int (p3 &&& (3 : Int32))), .val (.ref b864), .val (.ref b1097), .unset] [(.int (1 : Int32))])) _
          refine XS.goto X1203.here hx rfl (pc0 := 252) (pc' := 256) rfl (hb hby at_252) (by decide) (by decide) ?_
          refine XS.istore X1203.here hx rfl (hb hby at_256) rfl (l' := #[.val (.int p0), .val (.int p1), .val (.int p2), .val (.int p3), .val (.ref b1), .val (.int v292), .val (.int ((p1 &&& (255 : Int32)).toUInt32.toUInt16.toUInt32.toInt32)), .val (.int ((p2 &&& (255 : Int32)).toUInt32.toUInt16.toUInt32.toInt32)), .val (.int (p3 &&& (3 : Int32))), .val (.ref b864), .val (.ref b1097), .val (.int (1 : Int32))]) rfl ?_
          refine XS.aload X1203.here hx rfl (hb hby at_258) rfl rfl ?_
          refine st1209.trans ?_
          show Steps p.tables e below (T1209.setTop (mkF m 263 #[.val (.int p0), .val (.int p1), .val (.int p2), .val (.int p3), .val (.ref b1), .val (.int v292), .val (.int ((p1 &&& (255 : Int32)).toUInt32.toUInt16.toUInt32.toInt32)), .val (.int ((p2 &&& (255 : Int32)).toUInt32.toUInt16.toUInt32.toInt32)), .val (.int (p3 &&& (3 : Int32))), .val (.ref b864), .val (.ref b1097), .val (.int (1 : Int32))] [(.int (1 : Int32))])) _
          refine XS.iload X1209.here hx rfl (hb hby at_263) rfl ?_
          show Steps p.tables e below (T1209.setTop (mkF m 265 #[.val (.int p0), .val (.int p1), .val (.int p2), .val (.int p3), .val (.ref b1), .val (.int v292), .val (.int ((p1 &&& (255 : Int32)).toUInt32.toUInt16.toUInt32.toInt32)), .val (.int ((p2 &&& (255 : Int32)).toUInt32.toUInt16.toUInt32.toInt32)), .val (.int (p3 &&& (3 : Int32))), .val (.ref b864), .val (.ref b1097), .val (.int (1 : Int32))] [(.int (1 : Int32)), (.int (1 : Int32))])) _
          refine XS.icmpNo X1209.here hx rfl (hb hby at_265) rfl (teq (rfl : (1 : Int32) = (1 : Int32))).2 ?_
          refine XS.iconst X1209.here hx rfl (hb hby at_268) ?_
          show Steps p.tables e below (T1209.setTop (mkF m 269 #[.val (.int p0), .val (.int p1), .val (.int p2), .val (.int p3), .val (.ref b1), .val (.int v292), .val (.int ((p1 &&& (255 : Int32)).toUInt32.toUInt16.toUInt32.toInt32)), .val (.int ((p2 &&& (255 : Int32)).toUInt32.toUInt16.toUInt32.toInt32)), .val (.int (p3 &&& (3 : Int32))), .val (.ref b864), .val (.ref b1097), .val (.int (1 : Int32))] [(.int (1 : Int32))])) _
          refine XS.goto X1209.here hx rfl (pc0 := 269) (pc' := 273) rfl (hb hby at_269) (by decide) (by decide) ?_
          show Steps p.tables e below (T1209.setTop (mkF m 273 #[.val (.int p0), .val (.int p1), .val (.int p2), .val (.int p3), .val (.ref b1), .val (.int v292), .val (.int ((p1 &&& (255 : Int32)).toUInt32.toUInt16.toUInt32.toInt32)), .val (.int ((p2 &&& (255 : Int32)).toUInt32.toUInt16.toUInt32.toInt32)), .val (.int (p3 &&& (3 : Int32))), .val (.ref b864), .val (.ref b1097), .val (.int (1 : Int32))] [(.int (1 : Int32))])) _
          exact retN X1209 hx (t := .boolean) Bd.returns (by simp) (hb hby at_273) hr
        · show Q0 Z p0 p1 p2 p3 A cs h0 n0 _ T1209.heap _
          rw [e1209]
          exact ⟨rfl, N1209⟩
      · have K : ∀ target, Steps p.tables e below (T1203.setTop (mkF m 255 #[.val (.int p0), .val (.int p1), .val (.int p2), .val (.int p3), .val (.ref b1), .val (.int v292), .val (.int ((p1 &&& (255 : Int32)).toUInt32.toUInt16.toUInt32.toInt32)), .val (.int ((p2 &&& (255 : Int32)).toUInt32.toUInt16.toUInt32.toInt32)), .val (.int (p3 &&& (3 : Int32))), .val (.ref b864), .val (.ref b1097), .unset] [])) target → Steps p.tables e below (T1203.setTop (mkF m 248 #[.val (.int p0), .val (.int p1), .val (.int p2), .val (.int p3), .val (.ref b1), .val (.int v292), .val (.int ((p1 &&& (255 : Int32)).toUInt32.toUInt16.toUInt32.toInt32)), .val (.int ((p2 &&& (255 : Int32)).toUInt32.toUInt16.toUInt32.toInt32)), .val (.int (p3 &&& (3 : Int32))), .val (.ref b864), .val (.ref b1097), .unset] [(.int (1 : Int32)), (.int v292)])) target := by
          intro target kt
          refine XS.icmpYes X1203.here hx rfl (pc0 := 248) (pc' := 255) rfl (hb hby at_248) rfl (feq hc248_1205).2 (by decide) (by decide) ?_
          exact kt
        refine Done.of ?_ K
        have cy1210 := (cy1096.keep K1082q (allS gnb864 all0))
        have cy1211 := (cy1210.ext E1097)
        have cy1212 := (cy1211.keep K1203q (allS gnb1097 all0))
        obtain ⟨cq1213, kq1213, q1213a, q1213b, q1213c⟩ := isOf hZ rfl EI1203
        obtain ⟨_, _, ⟨T1213, L1213, k1213, n1213⟩, -, X1213, ⟨Lc1213, hQ1213, l1213, y1213, z1213⟩, st1213⟩ := X1203.virtualBack hx (y := (⟨"com/example/formula_to_count/formulatocount/ProbLogReader$Argument", "isVariable", "()Z"⟩ : MethodName)) (z := (⟨"com/example/formula_to_count/formulatocount/ProbLogReader$Argument", "isVariable", "()Z"⟩ : MethodName)) hown (mvT hZ (hw _ (List.mem_of_getElem? (i := 87) rfl))) (mvT hZ (hw _ (List.mem_of_getElem? (i := 88) rfl))) (notFace_of_selects (args := #[]) (mvT hZ (hw _ (List.mem_of_getElem? (i := 90) rfl)))) (mvT hZ (hw _ (List.mem_of_getElem? (i := 90) rfl))) (mvT hZ (hw _ (List.mem_of_getElem? (i := 89) rfl))) (by decide) (backOf (W := 0) (rm8d l Z a0 hw [] b1097 (A nj) (A 1) T1203.heap n0 Z1203 FI1203 (Sk1.ext cy1212.2) (hneA nj ltj (fun q => hc248_1205 (Int32.toInt_inj.mp (by rw [eqj, q]; decide))))) hZ (hw _ (List.mem_of_getElem? (i := 91) rfl)) (hw _ (List.mem_of_getElem? (i := 73) rfl)) (by decide) (by decide)) q1213a q1213c (g := (mkF m 260 #[.val (.int p0), .val (.int p1), .val (.int p2), .val (.int p3), .val (.ref b1), .val (.int v292), .val (.int ((p1 &&& (255 : Int32)).toUInt32.toUInt16.toUInt32.toInt32)), .val (.int ((p2 &&& (255 : Int32)).toUInt32.toUInt16.toUInt32.toInt32)), .val (.int (p3 &&& (3 : Int32))), .val (.ref b864), .val (.ref b1097), .val (.int (0 : Int32))] [(.ref b1097)])) rfl (by rw [hml]; rfl) (Steps.refl _) (argsL := []) (rest := []) (lenOf pd_10 rfl) rfl (by show 2 * 0 + _ ≤ _; exact Nat.le_of_eq rfl) (hb hby at_260) (fun _ _ => ⟨rfl, rfl, (by decide : 5 + 0 ≤ _), (by decide : 30 + 0 ≤ _)⟩)
        dsimp only [Pt.U, Pt.locs, Pt.cells, Pt.slots] at X1213 l1213 y1213 z1213 st1213 hQ1213
        rw [l1213, y1213, z1213] at X1213
        obtain ⟨rfl, N1213q, e1213⟩ := hQ1213
        have N1213 := Fr.app N1203 N1213q
        obtain ⟨fs, hr, hrun, hended, hEnd⟩ := X1213.leaveW hS0 (by rw [e1213]; exact (Nat.zero_le _)) (v := some (.int (1 : Int32))) (fun h => by rw [Bd.returns] at h; cases h)
        refine ⟨_, _, ?_, hrun, hended, _, _, rfl, ?_, hEnd.1, hEnd.2.1, hEnd.2.2.1, hEnd.2.2.2.mono (by decide) (by decide)⟩
        · refine XS.iconst X1203.here hx rfl (hb hby at_255) ?_
          refine XS.istore X1203.here hx rfl (hb hby at_256) rfl (l' := #[.val (.int p0), .val (.int p1), .val (.int p2), .val (.int p3), .val (.ref b1), .val (.int v292), .val (.int ((p1 &&& (255 : Int32)).toUInt32.toUInt16.toUInt32.toInt32)), .val (.int ((p2 &&& (255 : Int32)).toUInt32.toUInt16.toUInt32.toInt32)), .val (.int (p3 &&& (3 : Int32))), .val (.ref b864), .val (.ref b1097), .val (.int (0 : Int32))]) rfl ?_
          show Steps p.tables e below (T1203.setTop (mkF m 258 #[.val (.int p0), .val (.int p1), .val (.int p2), .val (.int p3), .val (.ref b1), .val (.int v292), .val (.int ((p1 &&& (255 : Int32)).toUInt32.toUInt16.toUInt32.toInt32)), .val (.int ((p2 &&& (255 : Int32)).toUInt32.toUInt16.toUInt32.toInt32)), .val (.int (p3 &&& (3 : Int32))), .val (.ref b864), .val (.ref b1097), .val (.int (0 : Int32))] [])) _
          refine XS.aload X1203.here hx rfl (hb hby at_258) rfl rfl ?_
          refine st1213.trans ?_
          refine XS.iload X1213.here hx rfl (hb hby at_263) rfl ?_
          show Steps p.tables e below (T1213.setTop (mkF m 265 #[.val (.int p0), .val (.int p1), .val (.int p2), .val (.int p3), .val (.ref b1), .val (.int v292), .val (.int ((p1 &&& (255 : Int32)).toUInt32.toUInt16.toUInt32.toInt32)), .val (.int ((p2 &&& (255 : Int32)).toUInt32.toUInt16.toUInt32.toInt32)), .val (.int (p3 &&& (3 : Int32))), .val (.ref b864), .val (.ref b1097), .val (.int (0 : Int32))] [(.int (0 : Int32)), (.int (0 : Int32))])) _
          refine XS.icmpNo X1213.here hx rfl (hb hby at_265) rfl (teq (rfl : (0 : Int32) = (0 : Int32))).2 ?_
          refine XS.iconst X1213.here hx rfl (hb hby at_268) ?_
          show Steps p.tables e below (T1213.setTop (mkF m 269 #[.val (.int p0), .val (.int p1), .val (.int p2), .val (.int p3), .val (.ref b1), .val (.int v292), .val (.int ((p1 &&& (255 : Int32)).toUInt32.toUInt16.toUInt32.toInt32)), .val (.int ((p2 &&& (255 : Int32)).toUInt32.toUInt16.toUInt32.toInt32)), .val (.int (p3 &&& (3 : Int32))), .val (.ref b864), .val (.ref b1097), .val (.int (0 : Int32))] [(.int (1 : Int32))])) _
          refine XS.goto X1213.here hx rfl (pc0 := 269) (pc' := 273) rfl (hb hby at_269) (by decide) (by decide) ?_
          show Steps p.tables e below (T1213.setTop (mkF m 273 #[.val (.int p0), .val (.int p1), .val (.int p2), .val (.int p3), .val (.ref b1), .val (.int v292), .val (.int ((p1 &&& (255 : Int32)).toUInt32.toUInt16.toUInt32.toInt32)), .val (.int ((p2 &&& (255 : Int32)).toUInt32.toUInt16.toUInt32.toInt32)), .val (.int (p3 &&& (3 : Int32))), .val (.ref b864), .val (.ref b1097), .val (.int (0 : Int32))] [(.int (1 : Int32))])) _
          exact retN X1213 hx (t := .boolean) Bd.returns (by simp) (hb hby at_273) hr
        · show Q0 Z p0 p1 p2 p3 A cs h0 n0 _ T1213.heap _
          rw [e1213]
          exact ⟨rfl, N1213⟩
set_option maxRecDepth 65536 in
set_option maxHeartbeats 40000000 in
theorem comes_1 {Post : Tables → Env → Array Value → State → Outcome → State → Prop} (hpost : ∀ tb e args s v u, (limb_1_1.after args s (.returned v) u = true ∧ limb_1_2.after args s (.returned v) u = true ∧ True) → ReturnedEndW s (.returned v) u (Jvm.fieldLocs frame_1_writes args s ++ Jvm.arrayLocs frame_1_arrays args s ++ Jvm.staticLocs frame_1_statics s) 24 1152 → Post tb e args s (.returned v) u) :
    ArmFor flags0 classFile x code maxLocals ret World_1 tables_1 room_1 Calls_1 rest_1 Pre_1 Post := by
  intro l hfl _ _ p e ha hc hk s m args below hf hA hF happ hP
  obtain ⟨hcalls, hrest, hpre⟩ := hP
  obtain ⟨-, -, -, hnamed, -, -, -, hat⟩ := (Spec.applies_iff hf).mp happ
  obtain ⟨hg, hn⟩ := and_e (Cond.before_iff.mp (show (Jvm.Cond.and given_1 narrow_1).before args s = true from hpre))
  obtain ⟨g1, g2⟩ := and_e hg
  obtain ⟨g3, g4⟩ := and_e g2
  obtain ⟨g5, g6⟩ := and_e g4
  obtain ⟨g7, g8⟩ := and_e g6
  obtain ⟨w0, w1, w2, w3, rfl⟩ : ∃ w0 w1 w2 w3 : Value, args = #[w0, w1, w2, w3] := by
    have hs : args.size = 4 := by simpa [Cond.value, given_1] using g1
    obtain ⟨L⟩ := args
    match L, hs with
    | [w0, w1, w2, w3], _ => exact ⟨w0, w1, w2, w3, rfl⟩
  have hw := fun d (hd : d ∈ tables_1) => atoms_spec (ws := Jvm.Cond.code x code maxLocals ret :: tables_1) hat d (List.mem_cons_of_mem _ hd)
  have hfit : Fit s := fun {y c} hc i hi => by
    obtain ⟨ha, rfl⟩ := Array.getElem?_eq_some_iff.mp hc
    have q := List.all_eq_true.mp ((Array.all_eq_true_iff_forall_mem.mp hF) _ (Array.getElem_mem ha)) i (List.mem_range.mpr hi)
    simpa [Array.getElem?_eq_getElem hi] using q
  obtain ⟨hsets, hown0⟩ := atoms_of _ (rest_1_c_eq ▸ (show rest_1_c.before _ s = true from hrest))
  have hr0 := Cond.before_iff.mp hown0
  obtain ⟨i0, ei0⟩ := is_v g3
  obtain rfl : w0 = (.int i0) := Option.some.inj ei0
  obtain ⟨i1, ei1⟩ := is_v g5
  obtain rfl : w1 = (.int i1) := Option.some.inj ei1
  obtain ⟨i2, ei2⟩ := is_v g7
  obtain rfl : w2 = (.int i2) := Option.some.inj ei2
  obtain ⟨i3, ei3⟩ := is_v g8
  obtain rfl : w3 = (.int i3) := Option.some.inj ei3
  obtain ⟨nr0, hn⟩ := and_e hn
  obtain ⟨x0, ex0⟩ := exa_v nr0
  have EE0 := Exa.start ex0 nr0
  have SS0 := Sta.start ex0 (Or.inr ⟨(hw _ (List.mem_of_getElem? (i := 3) rfl)), (hw _ (List.mem_of_getElem? (i := 4) rfl))⟩)
  obtain ⟨nr1, hn⟩ := and_e hn
  obtain ⟨x1, ex1⟩ := exa_v nr1
  have EE1 := Exa.start ex1 nr1
  have SS1 := Sta.start ex1 (Or.inr ⟨(hw _ (List.mem_of_getElem? (i := 3) rfl)), (hw _ (List.mem_of_getElem? (i := 7) rfl))⟩)
  obtain ⟨nr2, hn⟩ := and_e hn
  obtain ⟨x2, ex2⟩ := exa_v nr2
  have EE2 := Exa.start ex2 nr2
  have SS2 := Sta.start ex2 (Or.inr ⟨(hw _ (List.mem_of_getElem? (i := 3) rfl)), (hw _ (List.mem_of_getElem? (i := 9) rfl))⟩)
  obtain ⟨nr3, hn⟩ := and_e hn
  obtain ⟨x3, ex3⟩ := exa_v nr3
  have EE3 := Exa.start ex3 nr3
  have SS3 := Sta.start ex3 (Or.inr ⟨(hw _ (List.mem_of_getElem? (i := 3) rfl)), (hw _ (List.mem_of_getElem? (i := 11) rfl))⟩)
  obtain ⟨nr4, hn⟩ := and_e hn
  obtain ⟨x4, ex4⟩ := exa_v nr4
  have EE4 := Exa.start ex4 nr4
  have SS4 := Sta.start ex4 (Or.inr ⟨(hw _ (List.mem_of_getElem? (i := 3) rfl)), (hw _ (List.mem_of_getElem? (i := 13) rfl))⟩)
  obtain ⟨nr5, hn⟩ := and_e hn
  obtain ⟨x5, ex5⟩ := exa_v nr5
  have EE5 := Exa.start ex5 nr5
  have SS5 := Sta.start ex5 (Or.inr ⟨(hw _ (List.mem_of_getElem? (i := 3) rfl)), (hw _ (List.mem_of_getElem? (i := 15) rfl))⟩)
  obtain ⟨nr6, hn⟩ := and_e hn
  obtain ⟨x6, ex6⟩ := exa_v nr6
  have EE6 := Exa.start ex6 nr6
  have SS6 := Sta.start ex6 (Or.inr ⟨(hw _ (List.mem_of_getElem? (i := 3) rfl)), (hw _ (List.mem_of_getElem? (i := 17) rfl))⟩)
  obtain ⟨nr7, hn⟩ := and_e hn
  obtain ⟨x7, ex7⟩ := exa_v nr7
  have EE7 := Exa.start ex7 nr7
  have SS7 := Sta.start ex7 (Or.inr ⟨(hw _ (List.mem_of_getElem? (i := 3) rfl)), (hw _ (List.mem_of_getElem? (i := 19) rfl))⟩)
  obtain ⟨nr8, hn⟩ := and_e hn
  obtain ⟨x8, ex8⟩ := exa_v nr8
  have EE8 := Exa.start ex8 nr8
  have SS8 := Sta.start ex8 (Or.inr ⟨(hw _ (List.mem_of_getElem? (i := 3) rfl)), (hw _ (List.mem_of_getElem? (i := 21) rfl))⟩)
  obtain ⟨nr9, hn⟩ := and_e hn
  obtain ⟨x9, ex9⟩ := exa_v nr9
  have EE9 := Exa.start ex9 nr9
  have SS9 := Sta.start ex9 (Or.inr ⟨(hw _ (List.mem_of_getElem? (i := 3) rfl)), (hw _ (List.mem_of_getElem? (i := 23) rfl))⟩)
  obtain ⟨nr10, hn⟩ := and_e hn
  obtain ⟨x10, ex10⟩ := exa_v nr10
  have EE10 := Exa.start ex10 nr10
  have SS10 := Sta.start ex10 (Or.inr ⟨(hw _ (List.mem_of_getElem? (i := 3) rfl)), (hw _ (List.mem_of_getElem? (i := 25) rfl))⟩)
  obtain ⟨nr11, hn⟩ := and_e hn
  obtain ⟨x11, ex11⟩ := exa_v nr11
  have EE11 := Exa.start ex11 nr11
  have SS11 := Sta.start ex11 (Or.inr ⟨(hw _ (List.mem_of_getElem? (i := 3) rfl)), (hw _ (List.mem_of_getElem? (i := 27) rfl))⟩)
  obtain ⟨nr12, hn⟩ := and_e hn
  obtain ⟨x12, ex12⟩ := exa_v nr12
  have EE12 := Exa.start ex12 nr12
  have SS12 := Sta.start ex12 (Or.inr ⟨(hw _ (List.mem_of_getElem? (i := 3) rfl)), (hw _ (List.mem_of_getElem? (i := 29) rfl))⟩)
  obtain ⟨nr13, hn⟩ := and_e hn
  obtain ⟨x13, ex13⟩ := exa_v nr13
  have EE13 := Exa.start ex13 nr13
  have SS13 := Sta.start ex13 (Or.inr ⟨(hw _ (List.mem_of_getElem? (i := 3) rfl)), (hw _ (List.mem_of_getElem? (i := 31) rfl))⟩)
  obtain ⟨nr14, hn⟩ := and_e hn
  obtain ⟨x14, ex14⟩ := exa_v nr14
  have EE14 := Exa.start ex14 nr14
  have SS14 := Sta.start ex14 (Or.inr ⟨(hw _ (List.mem_of_getElem? (i := 3) rfl)), (hw _ (List.mem_of_getElem? (i := 33) rfl))⟩)
  obtain ⟨nr15, hn⟩ := and_e hn
  obtain ⟨x15, ex15⟩ := exa_v nr15
  have EE15 := Exa.start ex15 nr15
  have SS15 := Sta.start ex15 (Or.inr ⟨(hw _ (List.mem_of_getElem? (i := 3) rfl)), (hw _ (List.mem_of_getElem? (i := 35) rfl))⟩)
  obtain ⟨nr16, hn⟩ := and_e hn
  obtain ⟨x16, ex16⟩ := exa_v nr16
  have EE16 := Exa.start ex16 nr16
  have SS16 := Sta.start ex16 (Or.inr ⟨(hw _ (List.mem_of_getElem? (i := 3) rfl)), (hw _ (List.mem_of_getElem? (i := 37) rfl))⟩)
  obtain ⟨nr17, hn⟩ := and_e hn
  obtain ⟨x17, ex17⟩ := exa_v nr17
  have EE17 := Exa.start ex17 nr17
  have SS17 := Sta.start ex17 (Or.inr ⟨(hw _ (List.mem_of_getElem? (i := 3) rfl)), (hw _ (List.mem_of_getElem? (i := 39) rfl))⟩)
  obtain ⟨nr18, hn⟩ := and_e hn
  obtain ⟨x18, ex18⟩ := exa_v nr18
  have EE18 := Exa.start ex18 nr18
  have SS18 := Sta.start ex18 (Or.inr ⟨(hw _ (List.mem_of_getElem? (i := 3) rfl)), (hw _ (List.mem_of_getElem? (i := 41) rfl))⟩)
  obtain ⟨nr19, hn⟩ := and_e hn
  obtain ⟨x19, ex19⟩ := exa_v nr19
  have EE19 := Exa.start ex19 nr19
  have SS19 := Sta.start ex19 (Or.inr ⟨(hw _ (List.mem_of_getElem? (i := 3) rfl)), (hw _ (List.mem_of_getElem? (i := 43) rfl))⟩)
  obtain ⟨nr20, hn⟩ := and_e hn
  have FF0_ordinal := Fld.start ((fld_at ex0).symm.trans (own_eqint nr20))
  obtain ⟨nr21, hn⟩ := and_e hn
  have FF1_ordinal := Fld.start ((fld_at ex1).symm.trans (own_eqint nr21))
  obtain ⟨nr22, hn⟩ := and_e hn
  have FF12_ordinal := Fld.start ((fld_at ex12).symm.trans (own_eqint nr22))
  obtain ⟨nr23, hn⟩ := and_e hn
  have FF19_ordinal := Fld.start ((fld_at ex19).symm.trans (own_eqint nr23))
  obtain ⟨nr24, hn⟩ := and_e hn
  have FF14_ordinal := Fld.start ((fld_at ex14).symm.trans (own_eqint nr24))
  obtain ⟨nr25, hn⟩ := and_e hn
  have FF3_ordinal := Fld.start ((fld_at ex3).symm.trans (own_eqint nr25))
  obtain ⟨nr26, hn⟩ := and_e hn
  have FF16_ordinal := Fld.start ((fld_at ex16).symm.trans (own_eqint nr26))
  obtain ⟨nr27, hn⟩ := and_e hn
  have FF8_ordinal := Fld.start ((fld_at ex8).symm.trans (own_eqint nr27))
  obtain ⟨nr28, hn⟩ := and_e hn
  have FF4_ordinal := Fld.start ((fld_at ex4).symm.trans (own_eqint nr28))
  obtain ⟨nr29, hn⟩ := and_e hn
  have FF9_ordinal := Fld.start ((fld_at ex9).symm.trans (own_eqint nr29))
  obtain ⟨nr30, hn⟩ := and_e hn
  have FF2_ordinal := Fld.start ((fld_at ex2).symm.trans (own_eqint nr30))
  obtain ⟨nr31, hn⟩ := and_e hn
  have FF13_ordinal := Fld.start ((fld_at ex13).symm.trans (own_eqint nr31))
  obtain ⟨nr32, hn⟩ := and_e hn
  have FF11_ordinal := Fld.start ((fld_at ex11).symm.trans (own_eqint nr32))
  obtain ⟨nr33, hn⟩ := and_e hn
  have FF7_ordinal := Fld.start ((fld_at ex7).symm.trans (own_eqint nr33))
  obtain ⟨nr34, hn⟩ := and_e hn
  have FF10_ordinal := Fld.start ((fld_at ex10).symm.trans (own_eqint nr34))
  obtain ⟨nr35, hn⟩ := and_e hn
  have FF17_ordinal := Fld.start ((fld_at ex17).symm.trans (own_eqint nr35))
  obtain ⟨nr36, hn⟩ := and_e hn
  have FF5_ordinal := Fld.start ((fld_at ex5).symm.trans (own_eqint nr36))
  obtain ⟨nr37, hn⟩ := and_e hn
  have FF6_ordinal := Fld.start ((fld_at ex6).symm.trans (own_eqint nr37))
  obtain ⟨nr38, hn⟩ := and_e hn
  have FF15_ordinal := Fld.start ((fld_at ex15).symm.trans (own_eqint nr38))
  have FF18_ordinal := Fld.start ((fld_at ex18).symm.trans (own_eqint hn))
  let A : Nat → Addr := fun i => [x0, x1, x2, x3, x4, x5, x6, x7, x8, x9, x10, x11, x12, x13, x14, x15, x16, x17, x18, x19].getD i 0
  have EA : ∀ i, i < 20 → Exa s s.heap (A i) "com/example/formula_to_count/formulatocount/Tokens$Kind" := by
    intro i hi
    match i, hi with
    | 0, _ => exact EE0
    | 1, _ => exact EE1
    | 2, _ => exact EE2
    | 3, _ => exact EE3
    | 4, _ => exact EE4
    | 5, _ => exact EE5
    | 6, _ => exact EE6
    | 7, _ => exact EE7
    | 8, _ => exact EE8
    | 9, _ => exact EE9
    | 10, _ => exact EE10
    | 11, _ => exact EE11
    | 12, _ => exact EE12
    | 13, _ => exact EE13
    | 14, _ => exact EE14
    | 15, _ => exact EE15
    | 16, _ => exact EE16
    | 17, _ => exact EE17
    | 18, _ => exact EE18
    | 19, _ => exact EE19
    | n + 20, q => exact absurd q (by omega)
  have hneA : ∀ i, i < 20 → i ≠ 1 → ¬ A i = A 1 := by
    intro i hi
    match i, hi with
    | 0, _ => exact fun _ => Fld.ne FF0_ordinal FF1_ordinal (by decide)
    | 1, _ => exact fun q => absurd rfl q
    | 2, _ => exact fun _ => Fld.ne FF2_ordinal FF1_ordinal (by decide)
    | 3, _ => exact fun _ => Fld.ne FF3_ordinal FF1_ordinal (by decide)
    | 4, _ => exact fun _ => Fld.ne FF4_ordinal FF1_ordinal (by decide)
    | 5, _ => exact fun _ => Fld.ne FF5_ordinal FF1_ordinal (by decide)
    | 6, _ => exact fun _ => Fld.ne FF6_ordinal FF1_ordinal (by decide)
    | 7, _ => exact fun _ => Fld.ne FF7_ordinal FF1_ordinal (by decide)
    | 8, _ => exact fun _ => Fld.ne FF8_ordinal FF1_ordinal (by decide)
    | 9, _ => exact fun _ => Fld.ne FF9_ordinal FF1_ordinal (by decide)
    | 10, _ => exact fun _ => Fld.ne FF10_ordinal FF1_ordinal (by decide)
    | 11, _ => exact fun _ => Fld.ne FF11_ordinal FF1_ordinal (by decide)
    | 12, _ => exact fun _ => Fld.ne FF12_ordinal FF1_ordinal (by decide)
    | 13, _ => exact fun _ => Fld.ne FF13_ordinal FF1_ordinal (by decide)
    | 14, _ => exact fun _ => Fld.ne FF14_ordinal FF1_ordinal (by decide)
    | 15, _ => exact fun _ => Fld.ne FF15_ordinal FF1_ordinal (by decide)
    | 16, _ => exact fun _ => Fld.ne FF16_ordinal FF1_ordinal (by decide)
    | 17, _ => exact fun _ => Fld.ne FF17_ordinal FF1_ordinal (by decide)
    | 18, _ => exact fun _ => Fld.ne FF18_ordinal FF1_ordinal (by decide)
    | 19, _ => exact fun _ => Fld.ne FF19_ordinal FF1_ordinal (by decide)
    | n + 20, q => exact absurd q (by omega)
  have cn3 := not_v (Cond.before_iff.mp (hsets _ (List.mem_of_getElem? (i := 2) rfl)))
  obtain ⟨cs7, ecs7⟩ := is_v (Cond.before_iff.mp (hsets _ (List.mem_of_getElem? (i := 1) rfl)))
  have SCS : Sta s s.heap "java/lang/String" "COMPACT_STRINGS" "Z" (.int cs7) := Sta.start ecs7 (Or.inl (hsets _ (List.mem_of_getElem? (i := 0) rfl)))
  have ccs : ¬ (cs7 = (0 : Int32)) := gotF (Cond.eq_ints ecs7 (Term.int_eval (0))) cn3
  have hOC := own_OC_start (CHv.start (EL := [("java/lang/String", 7)]) (EW.cons (hw _ (List.mem_of_getElem? (i := 111) rfl)) (by decide) EW.nil) (fun q hq => hcalls.1 q hq) (hsets _ (List.mem_of_getElem? (i := 2) rfl)) (hw _ (List.mem_of_getElem? (i := 59) rfl)) (hw _ (List.mem_of_getElem? (i := 55) rfl)))
  obtain ⟨n, o, h1, h2, h3, _, L, rfl, ⟨rfl, N⟩, hq⟩ := rm0 l s _ hw tables_1 i0 i1 i2 i3 A cs7 s.heap s.heap.size (Nat.le_refl _) SS0 SS1 SS2 SS3 SS4 SS5 SS6 SS7 SS8 SS9 SS10 SS11 SS12 SS13 SS14 SS15 SS16 SS17 SS18 SS19 EA hneA (Old.start s) SCS ccs p e ha hc hk s m _ below hf ((Spec.applies_iff_loose hf).mp happ).1 ⟨rfl, State.Warmed39.refl s, rfl, hOC⟩ trivial
  refine ⟨n, _, h1, h2, h3, hpost _ _ _ _ _ _ ⟨Cond.after_iff.mpr rfl, Cond.after_iff.mpr (eq_i res_at (Term.int_eval (1)) rfl), trivial⟩ ⟨hq.1, hq.2.1, hq.2.2.1, (hq.2.2.2.sift fun y hy => Or.inr (N y hy)).mono (by decide) (by decide)⟩⟩
theorem main_1_1 : Claimed_1_1 := comes_1 fun _ _ _ _ _ _ h hF => ⟨h.1, hF⟩
theorem main_1_2 : Claimed_1_2 := comes_1 fun _ _ _ _ _ _ h hF => ⟨h.2.1, hF⟩
end Jvm.Pilot.@@N@@
namespace Jvm.Pilot.@@N@@
open Jvm Jvm.ClassFile Sem Op Lib Jvm.Free Jvm.Stand Jvm.Pilot.@@N@@.Jvm.D
/-! MADE BY PROGRAM (witnessworld.py) out of the Statement's table words and the real class files: 24 classes; the members and pool entries that the words name. The judged class is class 1, her method 1. -/
namespace start1
open Jvm.ClassFile
def u (s : String) : CpInfo := .utf8 (stringToUtf16 s)
/-- a pool by its gaps: so many unusable entries, then the entry; so many at the end -/
def gap : Nat → List CpInfo → List CpInfo
  | 0, r => r
  | n + 1, r => .unusable :: gap n r
def poolList (es : List (Nat × CpInfo)) (last : Nat) : List CpInfo := es.foldr (fun e r => gap e.1 (e.2 :: r)) (gap last [])
def pool (es : List (Nat × CpInfo)) (last : Nat) : Array CpInfo := ⟨poolList es last⟩
def fileOf (pool : Array CpInfo) (this : Nat) (attrs : Array Attribute := #[]) (ms : Array MethodInfo := #[]) (fl : Nat := 33) (sup : Nat := 0) (ifs : Array Nat := #[]) (fds : Array FieldInfo := #[]) : ClassFile where
  minorVersion := 0
  majorVersion := 65
  constantPool := pool
  accessFlags := fl
  thisClass := this
  superClass := sup
  interfaces := ifs
  fields := fds
  methods := ms
  attributes := attrs
def plain (name : String) (sup : Option ClassId) : Class where
  name := name
  kind := .ordinary
  loader := none
  accessFlags := 33
  super := sup
  interfaces := #[]
  cf := none
  fields := #[]
  methods := #[]
  instanceTypes := #[]
  staticTypes := #[]
  resolved := #[]
  callSites := []
  init := .initialized
  statics := none
  mirror := none

def pool0 : Array CpInfo := pool [(5, u "<init>"), (0, u "()V"), (1, .class_ 10), (1, u "java/lang/Object")] 113

def k0c0 : Code := { maxStack := 0, maxLocals := 1, code := object_method_1_code, exceptionTable := #[], attributes := #[] }
def k0m0 : Method := { name := "<init>", desc := "()V", sig := { parameters := [], returnType := none }, accessFlags := 1, code := some k0c0 }
/-- java/lang/Object -/
def k0 : Class := { plain "java/lang/Object" none with
  accessFlags := 33
  interfaces := #[]
  cf := some (fileOf pool0 8 #[] #[{ accessFlags := 1, nameIndex := 5, descriptorIndex := 6, attributes := #[] }] 33 0 #[] #[])
  fields := #[]
  methods := #[k0m0]
  instanceTypes := #[]
  staticTypes := #[]
  resolved := Array.replicate 124 none
  statics := none }

def pool1 : Array CpInfo := pool [(2, .class_ 4), (1, u "java/lang/Object"), (0, u "<init>"), (0, u "()V"), (0, .class_ 8), (0, u "com/example/formula_to_count/formulatocount/Tokens$Kind"), (0, .fieldref 7 10), (0, .nameAndType 11 12), (0, u "NAME"), (0, u "Lcom/example/formula_to_count/formulatocount/Tokens$Kind;"), (0, .fieldref 7 14), (0, .nameAndType 15 12), (0, u "VARIABLE"), (0, .fieldref 7 17), (0, .nameAndType 18 12), (0, u "NUMBER"), (0, .fieldref 7 20), (0, .nameAndType 21 12), (0, u "LEFT_PAREN"), (0, .fieldref 7 23), (0, .nameAndType 24 12), (0, u "RIGHT_PAREN"), (0, .fieldref 7 26), (0, .nameAndType 27 12), (0, u "LEFT_BRACE"), (0, .fieldref 7 29), (0, .nameAndType 30 12), (0, u "RIGHT_BRACE"), (0, .fieldref 7 32), (0, .nameAndType 33 12), (0, u "COMMA"), (0, .fieldref 7 35), (0, .nameAndType 36 12), (0, u "COLON"), (0, .fieldref 7 38), (0, .nameAndType 39 12), (0, u "PERIOD"), (0, .fieldref 7 41), (0, .nameAndType 42 12), (0, u "NOT"), (0, .fieldref 7 44), (0, .nameAndType 45 12), (0, u "AND"), (0, .fieldref 7 47), (0, .nameAndType 48 12), (0, u "OR"), (0, .fieldref 7 50), (0, .nameAndType 51 12), (0, u "IMPLIES"), (0, .fieldref 7 53), (0, .nameAndType 54 12), (0, u "IFF"), (0, .fieldref 7 56), (0, .nameAndType 57 12), (0, u "EQUALS"), (0, .fieldref 7 59), (0, .nameAndType 60 12), (0, u "NOT_EQUALS"), (0, .fieldref 7 62), (0, .nameAndType 63 12), (0, u "IF"), (0, .fieldref 7 65), (0, .nameAndType 66 12), (0, u "PROBABILITY"), (0, .fieldref 7 68), (0, .nameAndType 69 12), (0, u "END"), (0, .integer 2147483647), (0, .class_ 72), (0, u "java/lang/String"), (0, .methodref 71 74), (0, .nameAndType 5 75), (0, u "([C)V"), (0, .methodref 71 77), (0, .nameAndType 78 79), (0, u "valueOf"), (0, u "(C)Ljava/lang/String;"), (0, .class_ 81), (0, u "com/example/formula_to_count/formulatocount/ProbLogReader$Argument"), (0, .methodref 80 83), (0, .nameAndType 5 84), (0, u "(Lcom/example/formula_to_count/formulatocount/Tokens$Kind;Ljava/lang/String;)V"), (0, .methodref 80 86), (0, .nameAndType 87 88), (0, u "isVariable"), (0, u "()Z"), (0, .class_ 90), (0, u "com/example/formula_to_count/formulatocount/ArgumentIsVariablePinLaw"), (2, u "law"), (0, u "(IIII)Z")] 12

def k1m0 : Method := { name := "<init>", desc := "()V", sig := { parameters := [], returnType := none }, accessFlags := 1, code := none }
def k1c1 : Code := { maxStack := 6, maxLocals := 12, code := code, exceptionTable := #[], attributes := #[] }
def k1m1 : Method := { name := "law", desc := "(IIII)Z", sig := { parameters := [.int, .int, .int, .int], returnType := some .boolean }, accessFlags := 9, code := some k1c1 }
/-- com/example/formula_to_count/formulatocount/ArgumentIsVariablePinLaw -/
def k1 : Class := { plain "com/example/formula_to_count/formulatocount/ArgumentIsVariablePinLaw" (some 0) with
  accessFlags := 49
  interfaces := #[]
  cf := some (fileOf pool1 89 #[] #[{ accessFlags := 1, nameIndex := 5, descriptorIndex := 6, attributes := #[] }, { accessFlags := 9, nameIndex := 93, descriptorIndex := 94, attributes := #[] }] 49 2 #[] #[])
  fields := #[]
  methods := #[k1m0, k1m1]
  instanceTypes := #[]
  staticTypes := #[]
  resolved := Array.replicate 107 none
  statics := none }

def pool2 : Array CpInfo := pool [(1, .class_ 2), (0, u "java/lang/constant/Constable"), (0, .class_ 4), (0, u "java/lang/Object")] 6

/-- java/lang/constant/Constable -/
def k2 : Class := { plain "java/lang/constant/Constable" (some 0) with
  accessFlags := 1537
  interfaces := #[]
  cf := some (fileOf pool2 1 #[] #[] 1537 3 #[] #[])
  fields := #[]
  methods := #[]
  instanceTypes := #[]
  staticTypes := #[]
  resolved := Array.replicate 11 none
  statics := none }

def pool3 : Array CpInfo := pool [(1, .class_ 2), (0, u "java/lang/Comparable"), (0, .class_ 4), (0, u "java/lang/Object")] 7

/-- java/lang/Comparable -/
def k3 : Class := { plain "java/lang/Comparable" (some 0) with
  accessFlags := 1537
  interfaces := #[]
  cf := some (fileOf pool3 1 #[] #[] 1537 3 #[] #[])
  fields := #[]
  methods := #[]
  instanceTypes := #[]
  staticTypes := #[]
  resolved := Array.replicate 12 none
  statics := none }

def pool4 : Array CpInfo := pool [(1, .class_ 2), (0, u "java/io/Serializable"), (0, .class_ 4), (0, u "java/lang/Object")] 2

/-- java/io/Serializable -/
def k4 : Class := { plain "java/io/Serializable" (some 0) with
  accessFlags := 1537
  interfaces := #[]
  cf := some (fileOf pool4 1 #[] #[] 1537 3 #[] #[])
  fields := #[]
  methods := #[]
  instanceTypes := #[]
  staticTypes := #[]
  resolved := Array.replicate 7 none
  statics := none }

def pool5 : Array CpInfo := pool [(2, .class_ 4), (1, u "java/lang/Enum"), (0, u "name"), (0, u "Ljava/lang/String;"), (2, u "ordinal"), (0, u "I"), (1, .class_ 14), (1, u "java/lang/Object"), (4, u "hash"), (86, .class_ 108), (1, u "java/lang/Enum$EnumDesc"), (2, .class_ 112), (0, u "java/lang/constant/Constable"), (0, .class_ 114), (0, u "java/lang/Comparable"), (0, .class_ 116), (0, u "java/io/Serializable")] 87

/-- java/lang/Enum -/
def k5 : Class := { plain "java/lang/Enum" (some 0) with
  accessFlags := 1057
  interfaces := #[2, 3, 4]
  cf := some (fileOf pool5 2 #[.nestMembers #[106]] #[] 1057 12 #[111, 113, 115] #[{ accessFlags := 18, nameIndex := 5, descriptorIndex := 6, attributes := #[] }, { accessFlags := 18, nameIndex := 9, descriptorIndex := 10, attributes := #[] }, { accessFlags := 2, nameIndex := 19, descriptorIndex := 10, attributes := #[] }])
  fields := #[{ name := "name", type := (.object "java/lang/String"), accessFlags := 18, slot := 0, constantValue := 0 }, { name := "ordinal", type := .int, accessFlags := 18, slot := 1, constantValue := 0 }, { name := "hash", type := .int, accessFlags := 2, slot := 2, constantValue := 0 }]
  methods := #[]
  instanceTypes := #[(.object "java/lang/String"), .int, .int]
  staticTypes := #[]
  resolved := Array.replicate 204 none
  statics := none }

def pool6 : Array CpInfo := pool [(1, .class_ 2), (0, u "com/example/formula_to_count/formulatocount/Tokens$Kind"), (2, u "NAME"), (0, u "Lcom/example/formula_to_count/formulatocount/Tokens$Kind;"), (2, u "VARIABLE"), (2, u "NUMBER"), (2, u "LEFT_PAREN"), (2, u "RIGHT_PAREN"), (2, u "LEFT_BRACE"), (2, u "RIGHT_BRACE"), (2, u "COMMA"), (2, u "COLON"), (2, u "PERIOD"), (2, u "NOT"), (2, u "AND"), (2, u "OR"), (2, u "IMPLIES"), (2, u "IFF"), (2, u "EQUALS"), (2, u "NOT_EQUALS"), (2, u "IF"), (2, u "PROBABILITY"), (2, u "END"), (2, u "$VALUES"), (0, u "[Lcom/example/formula_to_count/formulatocount/Tokens$Kind;"), (6, .class_ 76), (1, u "java/lang/Enum"), (8, u "description"), (0, u "Ljava/lang/String;"), (48, .class_ 136), (0, u "com/example/formula_to_count/formulatocount/Tokens")] 2

/-- com/example/formula_to_count/formulatocount/Tokens$Kind -/
def k6 : Class := { plain "com/example/formula_to_count/formulatocount/Tokens$Kind" (some 5) with
  accessFlags := 16432
  interfaces := #[]
  cf := some (fileOf pool6 1 #[.nestHost 135] #[] 16432 74 #[] #[{ accessFlags := 16409, nameIndex := 5, descriptorIndex := 6, attributes := #[] }, { accessFlags := 16409, nameIndex := 9, descriptorIndex := 6, attributes := #[] }, { accessFlags := 16409, nameIndex := 12, descriptorIndex := 6, attributes := #[] }, { accessFlags := 16409, nameIndex := 15, descriptorIndex := 6, attributes := #[] }, { accessFlags := 16409, nameIndex := 18, descriptorIndex := 6, attributes := #[] }, { accessFlags := 16409, nameIndex := 21, descriptorIndex := 6, attributes := #[] }, { accessFlags := 16409, nameIndex := 24, descriptorIndex := 6, attributes := #[] }, { accessFlags := 16409, nameIndex := 27, descriptorIndex := 6, attributes := #[] }, { accessFlags := 16409, nameIndex := 30, descriptorIndex := 6, attributes := #[] }, { accessFlags := 16409, nameIndex := 33, descriptorIndex := 6, attributes := #[] }, { accessFlags := 16409, nameIndex := 36, descriptorIndex := 6, attributes := #[] }, { accessFlags := 16409, nameIndex := 39, descriptorIndex := 6, attributes := #[] }, { accessFlags := 16409, nameIndex := 42, descriptorIndex := 6, attributes := #[] }, { accessFlags := 16409, nameIndex := 45, descriptorIndex := 6, attributes := #[] }, { accessFlags := 16409, nameIndex := 48, descriptorIndex := 6, attributes := #[] }, { accessFlags := 16409, nameIndex := 51, descriptorIndex := 6, attributes := #[] }, { accessFlags := 16409, nameIndex := 54, descriptorIndex := 6, attributes := #[] }, { accessFlags := 16409, nameIndex := 57, descriptorIndex := 6, attributes := #[] }, { accessFlags := 16409, nameIndex := 60, descriptorIndex := 6, attributes := #[] }, { accessFlags := 16409, nameIndex := 63, descriptorIndex := 6, attributes := #[] }, { accessFlags := 18, nameIndex := 85, descriptorIndex := 86, attributes := #[] }, { accessFlags := 4122, nameIndex := 66, descriptorIndex := 67, attributes := #[] }])
  fields := #[{ name := "NAME", type := (.object "com/example/formula_to_count/formulatocount/Tokens$Kind"), accessFlags := 16409, slot := 0, constantValue := 0 }, { name := "VARIABLE", type := (.object "com/example/formula_to_count/formulatocount/Tokens$Kind"), accessFlags := 16409, slot := 1, constantValue := 0 }, { name := "NUMBER", type := (.object "com/example/formula_to_count/formulatocount/Tokens$Kind"), accessFlags := 16409, slot := 2, constantValue := 0 }, { name := "LEFT_PAREN", type := (.object "com/example/formula_to_count/formulatocount/Tokens$Kind"), accessFlags := 16409, slot := 3, constantValue := 0 }, { name := "RIGHT_PAREN", type := (.object "com/example/formula_to_count/formulatocount/Tokens$Kind"), accessFlags := 16409, slot := 4, constantValue := 0 }, { name := "LEFT_BRACE", type := (.object "com/example/formula_to_count/formulatocount/Tokens$Kind"), accessFlags := 16409, slot := 5, constantValue := 0 }, { name := "RIGHT_BRACE", type := (.object "com/example/formula_to_count/formulatocount/Tokens$Kind"), accessFlags := 16409, slot := 6, constantValue := 0 }, { name := "COMMA", type := (.object "com/example/formula_to_count/formulatocount/Tokens$Kind"), accessFlags := 16409, slot := 7, constantValue := 0 }, { name := "COLON", type := (.object "com/example/formula_to_count/formulatocount/Tokens$Kind"), accessFlags := 16409, slot := 8, constantValue := 0 }, { name := "PERIOD", type := (.object "com/example/formula_to_count/formulatocount/Tokens$Kind"), accessFlags := 16409, slot := 9, constantValue := 0 }, { name := "NOT", type := (.object "com/example/formula_to_count/formulatocount/Tokens$Kind"), accessFlags := 16409, slot := 10, constantValue := 0 }, { name := "AND", type := (.object "com/example/formula_to_count/formulatocount/Tokens$Kind"), accessFlags := 16409, slot := 11, constantValue := 0 }, { name := "OR", type := (.object "com/example/formula_to_count/formulatocount/Tokens$Kind"), accessFlags := 16409, slot := 12, constantValue := 0 }, { name := "IMPLIES", type := (.object "com/example/formula_to_count/formulatocount/Tokens$Kind"), accessFlags := 16409, slot := 13, constantValue := 0 }, { name := "IFF", type := (.object "com/example/formula_to_count/formulatocount/Tokens$Kind"), accessFlags := 16409, slot := 14, constantValue := 0 }, { name := "EQUALS", type := (.object "com/example/formula_to_count/formulatocount/Tokens$Kind"), accessFlags := 16409, slot := 15, constantValue := 0 }, { name := "NOT_EQUALS", type := (.object "com/example/formula_to_count/formulatocount/Tokens$Kind"), accessFlags := 16409, slot := 16, constantValue := 0 }, { name := "IF", type := (.object "com/example/formula_to_count/formulatocount/Tokens$Kind"), accessFlags := 16409, slot := 17, constantValue := 0 }, { name := "PROBABILITY", type := (.object "com/example/formula_to_count/formulatocount/Tokens$Kind"), accessFlags := 16409, slot := 18, constantValue := 0 }, { name := "END", type := (.object "com/example/formula_to_count/formulatocount/Tokens$Kind"), accessFlags := 16409, slot := 19, constantValue := 0 }, { name := "description", type := (.object "java/lang/String"), accessFlags := 18, slot := 3, constantValue := 0 }, { name := "$VALUES", type := (.array (.object "com/example/formula_to_count/formulatocount/Tokens$Kind")), accessFlags := 4122, slot := 20, constantValue := 0 }]
  methods := #[]
  instanceTypes := #[(.object "java/lang/String"), .int, .int, (.object "java/lang/String")]
  staticTypes := #[(.object "com/example/formula_to_count/formulatocount/Tokens$Kind"), (.object "com/example/formula_to_count/formulatocount/Tokens$Kind"), (.object "com/example/formula_to_count/formulatocount/Tokens$Kind"), (.object "com/example/formula_to_count/formulatocount/Tokens$Kind"), (.object "com/example/formula_to_count/formulatocount/Tokens$Kind"), (.object "com/example/formula_to_count/formulatocount/Tokens$Kind"), (.object "com/example/formula_to_count/formulatocount/Tokens$Kind"), (.object "com/example/formula_to_count/formulatocount/Tokens$Kind"), (.object "com/example/formula_to_count/formulatocount/Tokens$Kind"), (.object "com/example/formula_to_count/formulatocount/Tokens$Kind"), (.object "com/example/formula_to_count/formulatocount/Tokens$Kind"), (.object "com/example/formula_to_count/formulatocount/Tokens$Kind"), (.object "com/example/formula_to_count/formulatocount/Tokens$Kind"), (.object "com/example/formula_to_count/formulatocount/Tokens$Kind"), (.object "com/example/formula_to_count/formulatocount/Tokens$Kind"), (.object "com/example/formula_to_count/formulatocount/Tokens$Kind"), (.object "com/example/formula_to_count/formulatocount/Tokens$Kind"), (.object "com/example/formula_to_count/formulatocount/Tokens$Kind"), (.object "com/example/formula_to_count/formulatocount/Tokens$Kind"), (.object "com/example/formula_to_count/formulatocount/Tokens$Kind"), (.array (.object "com/example/formula_to_count/formulatocount/Tokens$Kind"))]
  resolved := Array.replicate 139 none
  statics := some 0 }

def pool7 : Array CpInfo := pool [(2, .class_ 4), (1, u "java/lang/CharSequence"), (42, .class_ 48), (0, u "java/lang/CharSequence$1CodePointIterator"), (10, .class_ 60), (0, u "java/lang/CharSequence$1CharIterator"), (5, .class_ 67), (0, u "java/lang/Object")] 63

/-- java/lang/CharSequence -/
def k7 : Class := { plain "java/lang/CharSequence" (some 0) with
  accessFlags := 1537
  interfaces := #[]
  cf := some (fileOf pool7 2 #[.nestMembers #[47, 59]] #[] 1537 66 #[] #[])
  fields := #[]
  methods := #[]
  instanceTypes := #[]
  staticTypes := #[]
  resolved := Array.replicate 131 none
  statics := none }

def pool8 : Array CpInfo := pool [(1, .class_ 2), (0, u "java/lang/constant/ConstantDesc"), (0, .class_ 4), (0, u "java/lang/Object")] 32

/-- java/lang/constant/ConstantDesc -/
def k8 : Class := { plain "java/lang/constant/ConstantDesc" (some 0) with
  accessFlags := 1537
  interfaces := #[]
  cf := some (fileOf pool8 1 #[] #[] 1537 3 #[] #[])
  fields := #[]
  methods := #[]
  instanceTypes := #[]
  staticTypes := #[]
  resolved := Array.replicate 37 none
  statics := none }

def pool9 : Array CpInfo := pool [(1, .methodref 2 3), (0, .class_ 4), (0, .nameAndType 5 6), (0, u "java/lang/Object"), (0, u "<init>"), (0, u "()V"), (0, .string 8), (0, u ""), (0, .fieldref 10 11), (0, .class_ 12), (0, .nameAndType 13 14), (0, u "java/lang/String"), (0, u "value"), (0, u "[B"), (0, .fieldref 10 16), (0, .nameAndType 17 18), (0, u "coder"), (0, u "B"), (2, u "hash"), (0, u "I"), (2, u "hashIsZero"), (0, u "Z"), (0, .methodref 10 28), (0, .nameAndType 5 29), (0, u "([CIILjava/lang/Void;)V"), (8, .fieldref 10 39), (0, .nameAndType 40 26), (0, u "COMPACT_STRINGS"), (1, .class_ 44), (1, u "java/lang/StringUTF16"), (0, u "compress"), (1, .methodref 42 48), (0, .nameAndType 49 50), (0, u "coderFromArrayLen"), (0, u "([BI)B"), (2, u "toBytes"), (53, .class_ 109), (1, u "java/lang/StringLatin1"), (67, .methodref 42 178), (0, .nameAndType 45 179), (0, u "([CII)[B"), (29, .methodref 10 210), (0, .nameAndType 5 211), (0, u "([BB)V"), (157, u "(C)Z"), (205, .class_ 576), (0, u "java/lang/CharSequence"), (22, u "CASE_INSENSITIVE_ORDER"), (0, u "Ljava/util/Comparator;"), (181, u "valueOf"), (0, u "(C)Ljava/lang/String;"), (226, u "([C)V"), (4, .methodref 107 1016), (0, .nameAndType 1017 369), (0, u "canEncode"), (0, .methodref 107 1019), (0, .nameAndType 53 1020), (0, u "(C)[B"), (80, u "serialPersistentFields"), (0, u "[Ljava/io/ObjectStreamField;"), (0, .class_ 1104), (0, u "java/lang/String$CaseInsensitiveComparator"), (1, .class_ 1107), (0, u "java/io/Serializable"), (0, .class_ 1109), (0, u "java/lang/Comparable"), (0, .class_ 1111), (0, u "java/lang/constant/Constable"), (0, .class_ 1113), (0, u "java/lang/constant/ConstantDesc"), (2, u "serialVersionUID"), (0, u "J"), (3, u "REPL"), (0, u "C"), (2, u "LATIN1"), (1, u "UTF16")] 323

def k9m0 : Method := { name := "<init>", desc := "()V", sig := { parameters := [], returnType := none }, accessFlags := 1, code := none }
def k9c1 : Code := { maxStack := 5, maxLocals := 2, code := jdk_42_method_3_code, exceptionTable := #[], attributes := #[] }
def k9m1 : Method := { name := "<init>", desc := "([C)V", sig := { parameters := [(.array .char)], returnType := none }, accessFlags := 1, code := some k9c1 }
def k9c2 : Code := { maxStack := 4, maxLocals := 1, code := jdk_42_method_139_code, exceptionTable := #[], attributes := #[] }
def k9m2 : Method := { name := "valueOf", desc := "(C)Ljava/lang/String;", sig := { parameters := [.char], returnType := some (.object "java/lang/String") }, accessFlags := 9, code := some k9c2 }
def k9c3 : Code := { maxStack := 4, maxLocals := 6, code := jdk_42_method_149_code, exceptionTable := #[], attributes := #[] }
def k9m3 : Method := { name := "<init>", desc := "([CIILjava/lang/Void;)V", sig := { parameters := [(.array .char), .int, .int, (.object "java/lang/Void")], returnType := none }, accessFlags := 2, code := some k9c3 }
def k9c4 : Code := { maxStack := 2, maxLocals := 3, code := jdk_42_method_151_code, exceptionTable := #[], attributes := #[] }
def k9m4 : Method := { name := "<init>", desc := "([BB)V", sig := { parameters := [(.array .byte), .byte], returnType := none }, accessFlags := 0, code := some k9c4 }
/-- java/lang/String -/
def k9 : Class := { plain "java/lang/String" (some 0) with
  accessFlags := 49
  interfaces := #[4, 3, 7, 2, 8]
  cf := some (fileOf pool9 10 #[.nestMembers #[1103]] #[{ accessFlags := 1, nameIndex := 5, descriptorIndex := 6, attributes := #[] }, { accessFlags := 1, nameIndex := 5, descriptorIndex := 1010, attributes := #[] }, { accessFlags := 9, nameIndex := 782, descriptorIndex := 783, attributes := #[] }, { accessFlags := 2, nameIndex := 5, descriptorIndex := 29, attributes := #[] }, { accessFlags := 0, nameIndex := 5, descriptorIndex := 211, attributes := #[] }] 49 2 #[1106, 1108, 575, 1110, 1112] #[{ accessFlags := 18, nameIndex := 13, descriptorIndex := 14, attributes := #[] }, { accessFlags := 18, nameIndex := 17, descriptorIndex := 18, attributes := #[] }, { accessFlags := 2, nameIndex := 21, descriptorIndex := 22, attributes := #[] }, { accessFlags := 2, nameIndex := 25, descriptorIndex := 26, attributes := #[] }, { accessFlags := 26, nameIndex := 1116, descriptorIndex := 1117, attributes := #[] }, { accessFlags := 24, nameIndex := 40, descriptorIndex := 26, attributes := #[] }, { accessFlags := 26, nameIndex := 1101, descriptorIndex := 1102, attributes := #[] }, { accessFlags := 26, nameIndex := 1121, descriptorIndex := 1122, attributes := #[] }, { accessFlags := 25, nameIndex := 599, descriptorIndex := 600, attributes := #[] }, { accessFlags := 24, nameIndex := 1125, descriptorIndex := 18, attributes := #[] }, { accessFlags := 24, nameIndex := 1127, descriptorIndex := 18, attributes := #[] }])
  fields := #[{ name := "value", type := (.array .byte), accessFlags := 18, slot := 0, constantValue := 0 }, { name := "coder", type := .byte, accessFlags := 18, slot := 1, constantValue := 0 }, { name := "hash", type := .int, accessFlags := 2, slot := 2, constantValue := 0 }, { name := "hashIsZero", type := .boolean, accessFlags := 2, slot := 3, constantValue := 0 }, { name := "serialVersionUID", type := .long, accessFlags := 26, slot := 0, constantValue := 0 }, { name := "COMPACT_STRINGS", type := .boolean, accessFlags := 24, slot := 1, constantValue := 0 }, { name := "serialPersistentFields", type := (.array (.object "java/io/ObjectStreamField")), accessFlags := 26, slot := 2, constantValue := 0 }, { name := "REPL", type := .char, accessFlags := 26, slot := 3, constantValue := 0 }, { name := "CASE_INSENSITIVE_ORDER", type := (.object "java/util/Comparator"), accessFlags := 25, slot := 4, constantValue := 0 }, { name := "LATIN1", type := .byte, accessFlags := 24, slot := 5, constantValue := 0 }, { name := "UTF16", type := .byte, accessFlags := 24, slot := 6, constantValue := 0 }]
  methods := #[k9m0, k9m1, k9m2, k9m3, k9m4]
  instanceTypes := #[(.array .byte), .byte, .int, .boolean]
  staticTypes := #[.long, .boolean, (.array (.object "java/io/ObjectStreamField")), .char, (.object "java/util/Comparator"), .byte, .byte]
  resolved := Array.replicate 1451 none
  statics := some 1 }

def pool10 : Array CpInfo := pool [(4, .class_ 6), (1, u "java/lang/Object"), (0, u "<init>"), (0, u "()V"), (5, .class_ 16), (1, u "java/lang/StringLatin1"), (73, u "canEncode"), (14, u "(C)Z"), (15, u "$assertionsDisabled"), (0, u "Z"), (98, .class_ 223), (1, u "java/lang/StringLatin1$LinesSpliterator"), (156, u "toBytes"), (1, u "(C)[B"), (7, .class_ 391), (0, u "java/lang/StringLatin1$CharsSpliterator")] 3

def k10m0 : Method := { name := "<init>", desc := "()V", sig := { parameters := [], returnType := none }, accessFlags := 0, code := none }
def k10c1 : Code := { maxStack := 2, maxLocals := 1, code := jdk_43_method_3_code, exceptionTable := #[], attributes := #[] }
def k10m1 : Method := { name := "canEncode", desc := "(C)Z", sig := { parameters := [.char], returnType := some .boolean }, accessFlags := 9, code := some k10c1 }
def k10c2 : Code := { maxStack := 4, maxLocals := 1, code := jdk_43_method_46_code, exceptionTable := #[], attributes := #[] }
def k10m2 : Method := { name := "toBytes", desc := "(C)[B", sig := { parameters := [.char], returnType := some (.array .byte) }, accessFlags := 9, code := some k10c2 }
/-- java/lang/StringLatin1 -/
def k10 : Class := { plain "java/lang/StringLatin1" (some 0) with
  accessFlags := 48
  interfaces := #[]
  cf := some (fileOf pool10 14 #[.nestMembers #[390, 221]] #[{ accessFlags := 0, nameIndex := 7, descriptorIndex := 8, attributes := #[] }, { accessFlags := 9, nameIndex := 90, descriptorIndex := 105, attributes := #[] }, { accessFlags := 9, nameIndex := 380, descriptorIndex := 382, attributes := #[] }] 48 4 #[] #[{ accessFlags := 4120, nameIndex := 121, descriptorIndex := 122, attributes := #[] }])
  fields := #[{ name := "$assertionsDisabled", type := .boolean, accessFlags := 4120, slot := 0, constantValue := 0 }]
  methods := #[k10m0, k10m1, k10m2]
  instanceTypes := #[]
  staticTypes := #[.boolean]
  resolved := Array.replicate 395 none
  statics := none }

def pool11 : Array CpInfo := pool [(1, .methodref 2 3), (0, .class_ 4), (0, .nameAndType 5 6), (0, u "java/lang/Object"), (0, u "<init>"), (0, u "()V"), (0, .class_ 8), (0, u "java/lang/Record")] 13

def k11c0 : Code := { maxStack := 1, maxLocals := 1, code := jdk_30_method_1_code, exceptionTable := #[], attributes := #[] }
def k11m0 : Method := { name := "<init>", desc := "()V", sig := { parameters := [], returnType := none }, accessFlags := 4, code := some k11c0 }
/-- java/lang/Record -/
def k11 : Class := { plain "java/lang/Record" (some 0) with
  accessFlags := 1057
  interfaces := #[]
  cf := some (fileOf pool11 7 #[] #[{ accessFlags := 4, nameIndex := 5, descriptorIndex := 6, attributes := #[] }] 1057 2 #[] #[])
  fields := #[]
  methods := #[k11m0]
  instanceTypes := #[]
  staticTypes := #[]
  resolved := Array.replicate 22 none
  statics := none }

def pool12 : Array CpInfo := pool [(1, .methodref 2 3), (0, .class_ 4), (0, .nameAndType 5 6), (0, u "java/lang/Record"), (0, u "<init>"), (0, u "()V"), (0, .fieldref 8 9), (0, .class_ 10), (0, .nameAndType 11 12), (0, u "com/example/formula_to_count/formulatocount/ProbLogReader$Argument"), (0, u "kind"), (0, u "Lcom/example/formula_to_count/formulatocount/Tokens$Kind;"), (0, .fieldref 8 14), (0, .nameAndType 15 16), (0, u "text"), (0, u "Ljava/lang/String;"), (0, .fieldref 18 19), (0, .class_ 20), (0, .nameAndType 21 12), (0, u "com/example/formula_to_count/formulatocount/Tokens$Kind"), (0, u "VARIABLE"), (23, u "(Lcom/example/formula_to_count/formulatocount/Tokens$Kind;Ljava/lang/String;)V"), (3, u "isVariable"), (0, u "()Z"), (10, .class_ 62), (0, u "com/example/formula_to_count/formulatocount/ProbLogReader")] 23

def k12c0 : Code := { maxStack := 2, maxLocals := 3, code := prog_62_method_1_code, exceptionTable := #[], attributes := #[] }
def k12m0 : Method := { name := "<init>", desc := "(Lcom/example/formula_to_count/formulatocount/Tokens$Kind;Ljava/lang/String;)V", sig := { parameters := [(.object "com/example/formula_to_count/formulatocount/Tokens$Kind"), (.object "java/lang/String")], returnType := none }, accessFlags := 0, code := some k12c0 }
def k12c1 : Code := { maxStack := 2, maxLocals := 1, code := prog_62_method_2_code, exceptionTable := #[], attributes := #[] }
def k12m1 : Method := { name := "isVariable", desc := "()Z", sig := { parameters := [], returnType := some .boolean }, accessFlags := 0, code := some k12c1 }
/-- com/example/formula_to_count/formulatocount/ProbLogReader$Argument -/
def k12 : Class := { plain "com/example/formula_to_count/formulatocount/ProbLogReader$Argument" (some 11) with
  accessFlags := 48
  interfaces := #[]
  cf := some (fileOf pool12 8 #[.nestHost 61] #[{ accessFlags := 0, nameIndex := 5, descriptorIndex := 45, attributes := #[] }, { accessFlags := 0, nameIndex := 49, descriptorIndex := 50, attributes := #[] }] 48 2 #[] #[{ accessFlags := 18, nameIndex := 11, descriptorIndex := 12, attributes := #[] }, { accessFlags := 18, nameIndex := 15, descriptorIndex := 16, attributes := #[] }])
  fields := #[{ name := "kind", type := (.object "com/example/formula_to_count/formulatocount/Tokens$Kind"), accessFlags := 18, slot := 0, constantValue := 0 }, { name := "text", type := (.object "java/lang/String"), accessFlags := 18, slot := 1, constantValue := 0 }]
  methods := #[k12m0, k12m1]
  instanceTypes := #[(.object "com/example/formula_to_count/formulatocount/Tokens$Kind"), (.object "java/lang/String")]
  staticTypes := #[]
  resolved := Array.replicate 86 none
  statics := none }

def pool13 : Array CpInfo := pool [(6, .class_ 8), (1, u "java/lang/Object"), (0, u "<init>"), (0, u "()V"), (1, .class_ 14), (1, u "java/lang/StringUTF16"), (31, u "$assertionsDisabled"), (0, u "Z"), (13, u "HI_BYTE_SHIFT"), (0, u "I"), (2, u "LO_BYTE_SHIFT"), (49, .methodref 12 116), (0, .nameAndType 117 118), (0, u "compress"), (0, u "([CI[BII)I"), (3, u "([CII)[B"), (138, u "coderFromArrayLen"), (0, u "([BI)B"), (106, .class_ 371), (1, u "java/lang/StringUTF16$LinesSpliterator"), (58, u "MAX_LENGTH"), (196, .class_ 628), (0, u "java/lang/StringUTF16$CodePointsSpliterator"), (0, .class_ 630), (0, u "java/lang/StringUTF16$CharsSpliterator")] 4

def k13m0 : Method := { name := "<init>", desc := "()V", sig := { parameters := [], returnType := none }, accessFlags := 0, code := none }
def k13c1 : Code := { maxStack := 2, maxLocals := 2, code := jdk_52_method_15_code, exceptionTable := #[], attributes := #[] }
def k13m1 : Method := { name := "coderFromArrayLen", desc := "([BI)B", sig := { parameters := [(.array .byte), .int], returnType := some .byte }, accessFlags := 8, code := some k13c1 }
def k13c2 : Code := { maxStack := 5, maxLocals := 6, code := jdk_52_method_16_code, exceptionTable := #[], attributes := #[] }
def k13m2 : Method := { name := "compress", desc := "([CII)[B", sig := { parameters := [(.array .char), .int, .int], returnType := some (.array .byte) }, accessFlags := 9, code := some k13c2 }
def k13c3 : Code := { maxStack := 3, maxLocals := 7, code := jdk_52_method_21_code, exceptionTable := #[], attributes := #[] }
def k13m3 : Method := { name := "compress", desc := "([CI[BII)I", sig := { parameters := [(.array .char), .int, (.array .byte), .int, .int], returnType := some .int }, accessFlags := 9, code := some k13c3 }
/-- java/lang/StringUTF16 -/
def k13 : Class := { plain "java/lang/StringUTF16" (some 0) with
  accessFlags := 48
  interfaces := #[]
  cf := some (fileOf pool13 12 #[.nestMembers #[627, 629, 369]] #[{ accessFlags := 0, nameIndex := 9, descriptorIndex := 10, attributes := #[] }, { accessFlags := 8, nameIndex := 261, descriptorIndex := 262, attributes := #[] }, { accessFlags := 9, nameIndex := 117, descriptorIndex := 122, attributes := #[] }, { accessFlags := 9, nameIndex := 117, descriptorIndex := 118, attributes := #[] }] 48 6 #[] #[{ accessFlags := 26, nameIndex := 61, descriptorIndex := 62, attributes := #[] }, { accessFlags := 26, nameIndex := 65, descriptorIndex := 62, attributes := #[] }, { accessFlags := 24, nameIndex := 430, descriptorIndex := 62, attributes := #[] }, { accessFlags := 4120, nameIndex := 46, descriptorIndex := 47, attributes := #[] }])
  fields := #[{ name := "HI_BYTE_SHIFT", type := .int, accessFlags := 26, slot := 0, constantValue := 0 }, { name := "LO_BYTE_SHIFT", type := .int, accessFlags := 26, slot := 1, constantValue := 0 }, { name := "MAX_LENGTH", type := .int, accessFlags := 24, slot := 2, constantValue := 0 }, { name := "$assertionsDisabled", type := .boolean, accessFlags := 4120, slot := 3, constantValue := 0 }]
  methods := #[k13m0, k13m1, k13m2, k13m3]
  instanceTypes := #[]
  staticTypes := #[.int, .int, .int, .boolean]
  resolved := Array.replicate 635 none
  statics := none }

def pool14 : Array CpInfo := pool [(2, .class_ 4), (1, u "java/lang/Object"), (0, u "<init>"), (0, u "()V"), (17, .class_ 26), (1, u "jdk/internal/util/Preconditions"), (28, .class_ 56), (0, u "jdk/internal/util/Preconditions$4"), (57, .class_ 115), (0, u "jdk/internal/util/Preconditions$1"), (7, u "SIOOBE_FORMATTER"), (0, u "Ljava/util/function/BiFunction;"), (0, .class_ 126), (0, u "jdk/internal/util/Preconditions$2"), (3, u "AIOOBE_FORMATTER"), (0, .class_ 132), (0, u "jdk/internal/util/Preconditions$3"), (3, u "IOOBE_FORMATTER")] 57

def k14m0 : Method := { name := "<init>", desc := "()V", sig := { parameters := [], returnType := none }, accessFlags := 1, code := none }
/-- jdk/internal/util/Preconditions -/
def k14 : Class := { plain "jdk/internal/util/Preconditions" (some 0) with
  accessFlags := 33
  interfaces := #[]
  cf := some (fileOf pool14 24 #[.nestMembers #[55, 131, 125, 114]] #[{ accessFlags := 1, nameIndex := 5, descriptorIndex := 6, attributes := #[] }] 33 2 #[] #[{ accessFlags := 25, nameIndex := 123, descriptorIndex := 124, attributes := #[] }, { accessFlags := 25, nameIndex := 130, descriptorIndex := 124, attributes := #[] }, { accessFlags := 25, nameIndex := 136, descriptorIndex := 124, attributes := #[] }])
  fields := #[{ name := "SIOOBE_FORMATTER", type := (.object "java/util/function/BiFunction"), accessFlags := 25, slot := 0, constantValue := 0 }, { name := "AIOOBE_FORMATTER", type := (.object "java/util/function/BiFunction"), accessFlags := 25, slot := 1, constantValue := 0 }, { name := "IOOBE_FORMATTER", type := (.object "java/util/function/BiFunction"), accessFlags := 25, slot := 2, constantValue := 0 }]
  methods := #[k14m0]
  instanceTypes := #[]
  staticTypes := #[(.object "java/util/function/BiFunction"), (.object "java/util/function/BiFunction"), (.object "java/util/function/BiFunction")]
  resolved := Array.replicate 194 none
  statics := some 2 }

def pool15 : Array CpInfo := pool [(9, u "<init>"), (6, .class_ 18), (1, u "java/lang/Object"), (0, u "()V"), (1, .class_ 23), (1, u "jdk/internal/util/ArraysSupport"), (0, u "LOG2_ARRAY_LONG_INDEX_SCALE"), (0, u "I"), (2, u "U"), (0, u "Ljdk/internal/misc/Unsafe;"), (8, u "BIG_ENDIAN"), (0, u "Z"), (8, u "LOG2_BYTE_BIT_SIZE"), (4, u "LOG2_ARRAY_INT_INDEX_SCALE"), (54, u "JLA"), (0, u "Ljdk/internal/access/JavaLangAccess;"), (11, u "LOG2_ARRAY_BOOLEAN_INDEX_SCALE"), (9, u "LOG2_ARRAY_BYTE_INDEX_SCALE"), (5, u "LOG2_ARRAY_CHAR_INDEX_SCALE"), (5, u "LOG2_ARRAY_SHORT_INDEX_SCALE"), (18, u "LOG2_ARRAY_FLOAT_INDEX_SCALE"), (24, u "LOG2_ARRAY_DOUBLE_INDEX_SCALE"), (89, u "T_BOOLEAN"), (2, u "T_CHAR"), (1, u "T_FLOAT"), (1, u "T_DOUBLE"), (1, u "T_BYTE"), (1, u "T_SHORT"), (1, u "T_INT"), (1, u "T_LONG"), (1, u "SOFT_MAX_ARRAY_LENGTH")] 83

def k15m0 : Method := { name := "<init>", desc := "()V", sig := { parameters := [], returnType := none }, accessFlags := 2, code := none }
/-- jdk/internal/util/ArraysSupport -/
def k15 : Class := { plain "jdk/internal/util/ArraysSupport" (some 0) with
  accessFlags := 33
  interfaces := #[]
  cf := some (fileOf pool15 21 #[] #[{ accessFlags := 2, nameIndex := 9, descriptorIndex := 19, attributes := #[] }] 33 16 #[] #[{ accessFlags := 24, nameIndex := 28, descriptorIndex := 29, attributes := #[] }, { accessFlags := 26, nameIndex := 38, descriptorIndex := 39, attributes := #[] }, { accessFlags := 25, nameIndex := 121, descriptorIndex := 25, attributes := #[] }, { accessFlags := 25, nameIndex := 131, descriptorIndex := 25, attributes := #[] }, { accessFlags := 25, nameIndex := 137, descriptorIndex := 25, attributes := #[] }, { accessFlags := 25, nameIndex := 143, descriptorIndex := 25, attributes := #[] }, { accessFlags := 25, nameIndex := 53, descriptorIndex := 25, attributes := #[] }, { accessFlags := 25, nameIndex := 24, descriptorIndex := 25, attributes := #[] }, { accessFlags := 25, nameIndex := 162, descriptorIndex := 25, attributes := #[] }, { accessFlags := 25, nameIndex := 187, descriptorIndex := 25, attributes := #[] }, { accessFlags := 26, nameIndex := 48, descriptorIndex := 25, attributes := #[] }, { accessFlags := 25, nameIndex := 277, descriptorIndex := 25, attributes := #[] }, { accessFlags := 25, nameIndex := 280, descriptorIndex := 25, attributes := #[] }, { accessFlags := 25, nameIndex := 282, descriptorIndex := 25, attributes := #[] }, { accessFlags := 25, nameIndex := 284, descriptorIndex := 25, attributes := #[] }, { accessFlags := 25, nameIndex := 286, descriptorIndex := 25, attributes := #[] }, { accessFlags := 25, nameIndex := 288, descriptorIndex := 25, attributes := #[] }, { accessFlags := 25, nameIndex := 290, descriptorIndex := 25, attributes := #[] }, { accessFlags := 25, nameIndex := 292, descriptorIndex := 25, attributes := #[] }, { accessFlags := 26, nameIndex := 108, descriptorIndex := 109, attributes := #[] }, { accessFlags := 25, nameIndex := 294, descriptorIndex := 25, attributes := #[] }])
  fields := #[{ name := "U", type := (.object "jdk/internal/misc/Unsafe"), accessFlags := 24, slot := 0, constantValue := 0 }, { name := "BIG_ENDIAN", type := .boolean, accessFlags := 26, slot := 1, constantValue := 0 }, { name := "LOG2_ARRAY_BOOLEAN_INDEX_SCALE", type := .int, accessFlags := 25, slot := 2, constantValue := 0 }, { name := "LOG2_ARRAY_BYTE_INDEX_SCALE", type := .int, accessFlags := 25, slot := 3, constantValue := 0 }, { name := "LOG2_ARRAY_CHAR_INDEX_SCALE", type := .int, accessFlags := 25, slot := 4, constantValue := 0 }, { name := "LOG2_ARRAY_SHORT_INDEX_SCALE", type := .int, accessFlags := 25, slot := 5, constantValue := 0 }, { name := "LOG2_ARRAY_INT_INDEX_SCALE", type := .int, accessFlags := 25, slot := 6, constantValue := 0 }, { name := "LOG2_ARRAY_LONG_INDEX_SCALE", type := .int, accessFlags := 25, slot := 7, constantValue := 0 }, { name := "LOG2_ARRAY_FLOAT_INDEX_SCALE", type := .int, accessFlags := 25, slot := 8, constantValue := 0 }, { name := "LOG2_ARRAY_DOUBLE_INDEX_SCALE", type := .int, accessFlags := 25, slot := 9, constantValue := 0 }, { name := "LOG2_BYTE_BIT_SIZE", type := .int, accessFlags := 26, slot := 10, constantValue := 0 }, { name := "T_BOOLEAN", type := .int, accessFlags := 25, slot := 11, constantValue := 0 }, { name := "T_CHAR", type := .int, accessFlags := 25, slot := 12, constantValue := 0 }, { name := "T_FLOAT", type := .int, accessFlags := 25, slot := 13, constantValue := 0 }, { name := "T_DOUBLE", type := .int, accessFlags := 25, slot := 14, constantValue := 0 }, { name := "T_BYTE", type := .int, accessFlags := 25, slot := 15, constantValue := 0 }, { name := "T_SHORT", type := .int, accessFlags := 25, slot := 16, constantValue := 0 }, { name := "T_INT", type := .int, accessFlags := 25, slot := 17, constantValue := 0 }, { name := "T_LONG", type := .int, accessFlags := 25, slot := 18, constantValue := 0 }, { name := "JLA", type := (.object "jdk/internal/access/JavaLangAccess"), accessFlags := 26, slot := 19, constantValue := 0 }, { name := "SOFT_MAX_ARRAY_LENGTH", type := .int, accessFlags := 25, slot := 20, constantValue := 0 }]
  methods := #[k15m0]
  instanceTypes := #[]
  staticTypes := #[(.object "jdk/internal/misc/Unsafe"), .boolean, .int, .int, .int, .int, .int, .int, .int, .int, .int, .int, .int, .int, .int, .int, .int, .int, .int, (.object "jdk/internal/access/JavaLangAccess"), .int]
  resolved := Array.replicate 378 none
  statics := none }

def pool16 : Array CpInfo := pool [(1, u "java/lang/Cloneable"), (0, .class_ 1), (0, u "java/lang/Object"), (0, .class_ 3)] 3

/-- java/lang/Cloneable -/
def k16 : Class := { plain "java/lang/Cloneable" (some 0) with
  accessFlags := 1537
  interfaces := #[]
  cf := some (fileOf pool16 2 #[] #[] 1537 4 #[] #[])
  fields := #[]
  methods := #[]
  instanceTypes := #[]
  staticTypes := #[]
  resolved := Array.replicate 8 none
  statics := none }

/-- the primitive byte -/
def k17 : Class := { plain "byte" none with kind := .primitive 'B', accessFlags := 0x411 }
/-- [B -/
def k18 : Class := { plain "[B" (some 0) with kind := .array 17 .byte, interfaces := #[16, 4], accessFlags := 1041 }

/-- the primitive char -/
def k19 : Class := { plain "char" none with kind := .primitive 'C', accessFlags := 0x411 }
/-- [C -/
def k20 : Class := { plain "[C" (some 0) with kind := .array 19 .char, interfaces := #[16, 4], accessFlags := 1041 }

/-- the primitive int -/
def k21 : Class := { plain "int" none with kind := .primitive 'I', accessFlags := 0x411 }
/-- [I -/
def k22 : Class := { plain "[I" (some 0) with kind := .array 21 .int, interfaces := #[16, 4], accessFlags := 1041 }

/-- [Lcom/example/formula_to_count/formulatocount/Tokens$Kind; -/
def k23 : Class := { plain "[Lcom/example/formula_to_count/formulatocount/Tokens$Kind;" (some 0) with kind := .array 6 (.object "com/example/formula_to_count/formulatocount/Tokens$Kind"), interfaces := #[16, 4], accessFlags := 1041 }

def heap : Heap := #[{ cls := 6, slots := #[.ref 3, .ref 4, .ref 5, .ref 6, .ref 7, .ref 8, .ref 9, .ref 10, .ref 11, .ref 12, .ref 13, .ref 14, .ref 15, .ref 16, .ref 17, .ref 18, .ref 19, .ref 20, .ref 21, .ref 22, .null], vm := .statics 6 },
  { cls := 9, slots := #[.long 0, .int 1, .null, .int 0, .null, .int 0, .int 0], vm := .statics 9 },
  { cls := 14, slots := #[.null, .null, .null], vm := .statics 14 },
  { cls := 6, slots := #[.null, .int 0, .int 0, .null], vm := .none },
  { cls := 6, slots := #[.null, .int 1, .int 0, .null], vm := .none },
  { cls := 6, slots := #[.null, .int 2, .int 0, .null], vm := .none },
  { cls := 6, slots := #[.null, .int 3, .int 0, .null], vm := .none },
  { cls := 6, slots := #[.null, .int 4, .int 0, .null], vm := .none },
  { cls := 6, slots := #[.null, .int 5, .int 0, .null], vm := .none },
  { cls := 6, slots := #[.null, .int 6, .int 0, .null], vm := .none },
  { cls := 6, slots := #[.null, .int 7, .int 0, .null], vm := .none },
  { cls := 6, slots := #[.null, .int 8, .int 0, .null], vm := .none },
  { cls := 6, slots := #[.null, .int 9, .int 0, .null], vm := .none },
  { cls := 6, slots := #[.null, .int 10, .int 0, .null], vm := .none },
  { cls := 6, slots := #[.null, .int 11, .int 0, .null], vm := .none },
  { cls := 6, slots := #[.null, .int 12, .int 0, .null], vm := .none },
  { cls := 6, slots := #[.null, .int 13, .int 0, .null], vm := .none },
  { cls := 6, slots := #[.null, .int 14, .int 0, .null], vm := .none },
  { cls := 6, slots := #[.null, .int 15, .int 0, .null], vm := .none },
  { cls := 6, slots := #[.null, .int 16, .int 0, .null], vm := .none },
  { cls := 6, slots := #[.null, .int 17, .int 0, .null], vm := .none },
  { cls := 6, slots := #[.null, .int 18, .int 0, .null], vm := .none },
  { cls := 6, slots := #[.null, .int 19, .int 0, .null], vm := .none }]
def classes : Array Class := #[k0, k1, k2, k3, k4, k5, k6, k7, k8, k9, k10, k11, k12, k13, k14, k15, k16, k17, k18, k19, k20, k21, k22, k23]
def interned : List (Array UInt16 × Addr) := []
def slotsUsed : Nat := 111
def theMethod : MethodId := ⟨1, 1⟩
def args0 : Array Value := #[.int 1, .int 5, .int 3, .int 2]
def aboutOver (below : List Frame) : State where
  vm := { classes := classes, interned := interned.toArray }
  heap := heap
  slotsUsed := slotsUsed
  threads := #[{ frames := .invoking theMethod args0 :: below }]
def below0 : List Frame := [.native { method := ⟨0, 0⟩, args := #[] }]
def about1 : State := aboutOver below0
def p0 : Program := .bare "" "" ""
def e0 : Env := launch0.env 0 0 0
theorem w_frames : about1.frames = Frame.invoking theMethod args0 :: below0 := rfl
set_option maxRecDepth 65536 in
theorem w_args : argsFit about1.vm theMethod args0 = true := by decide +kernel
set_option maxRecDepth 65536 in
theorem w_heap : heapFits about1 = true := by decide +kernel
set_option maxRecDepth 65536 in
theorem w_runnable : about1.curStatus? = some .runnable := by decide +kernel
set_option maxRecDepth 65536 in
theorem w_alone : about1.alone = true := by decide +kernel
set_option maxRecDepth 65536 in
theorem w_named : about1.methodNamed? x = some theMethod := by decide +kernel
set_option maxRecDepth 65536 in
theorem w_hears : about1.hears theMethod below0 = true := by decide +kernel
set_option maxRecDepth 65536 in
theorem w_ripe : about1.ripe theMethod args0 below0 = true := by decide +kernel
theorem w_running : about1.status = .running := rfl
set_option maxRecDepth 65536 in
theorem w_room : about1.hasRoom e0.platform room_1 = true :=
  launch0.hasRoom_least _ room_1 (by decide +kernel) (by decide +kernel) (by decide +kernel) (by decide +kernel) (by decide +kernel) (by decide +kernel)
theorem allAtoms_all (ts : List Jvm.Cond) (a : Array Jvm.Value) (st : Jvm.State) : (allAtoms ts).before a st = ts.all (fun c => c.before a st) := by
  induction ts with
  | nil => rfl
  | cons c t ih =>
    show (Jvm.Cond.and c (allAtoms t)).before a st = _
    rw [Jvm.Cond.before_and, ih, List.all_cons]
def words1 : List Jvm.Cond := Jvm.Cond.code x code maxLocals ret :: tables_1
/-- a 'code' word, met by the world's own term for the bytes: nothing is compared byte by byte -/
theorem code_word {y : MethodName} {bytes : ByteArray} {mx : Nat} {rt : Option FieldType} {a : Array Value} {s : State} {m : MethodId} {meth : Method} {c : Code} (h1 : s.methodNamed? y = some m) (h2 : s.vm.method? m = some meth) (h3 : meth.code = some c) (h4 : c.code = bytes)
    (h5 : (c.maxLocals == mx && c.exceptionTable.isEmpty && decide (c.maxStack ≤ mostOperands) && decide (meth.sig.returnType = rt) && !meth.locks && decide (parseMethodDescriptor y.desc = some meth.sig)) = true) : (Jvm.Cond.code y bytes mx rt).before a s = true := by
  simp only [Bool.and_eq_true, beq_iff_eq, Bool.not_eq_true', decide_eq_true_eq] at h5
  obtain ⟨⟨⟨⟨⟨g1, g2⟩, g3⟩, g4⟩, g5⟩, g6⟩ := h5
  simp [Cond.before, Cond.holds, Cond.value, h1, h2, h3, h4, g1, g2, g3, g4, g5, g6]
def isCode : Jvm.Cond → Bool
  | .code _ _ _ _ => true
  | _ => false
theorem all_split {L : List Jvm.Cond} {P : Jvm.Cond → Bool} (h1 : L.all (fun c => isCode c || P c) = true) (h2 : ∀ c ∈ L.filter isCode, P c = true) : L.all P = true := by
  refine List.all_eq_true.mpr fun c hc => ?_
  have h := List.all_eq_true.mp h1 c hc
  rcases Bool.eq_false_or_eq_true (isCode c) with hi | hi
  · exact h2 c (List.mem_filter.mpr ⟨hc, hi⟩)
  · simpa [hi] using h
set_option maxRecDepth 65536 in
theorem w_c0 : (Jvm.Cond.code x code maxLocals ret).before args0 about1 = true := code_word (m := ⟨1, 1⟩) (meth := k1m1) (c := k1c1) (by decide +kernel) rfl rfl rfl (by decide +kernel)
set_option maxRecDepth 65536 in
theorem w_c1 : (Jvm.Cond.code ({ cls := "java/lang/String", name := "valueOf", desc := "(C)Ljava/lang/String;" } : Jvm.MethodName) jdk_42_method_139_code (1 : Nat) (Option.some (Jvm.ClassFile.FieldType.object "java/lang/String"))).before args0 about1 = true := code_word (m := ⟨9, 2⟩) (meth := k9m2) (c := k9c2) (by decide +kernel) rfl rfl rfl (by decide +kernel)
set_option maxRecDepth 65536 in
theorem w_c2 : (Jvm.Cond.code ({ cls := "java/lang/StringLatin1", name := "canEncode", desc := "(C)Z" } : Jvm.MethodName) jdk_43_method_3_code (1 : Nat) (Option.some Jvm.ClassFile.FieldType.boolean)).before args0 about1 = true := code_word (m := ⟨10, 1⟩) (meth := k10m1) (c := k10c1) (by decide +kernel) rfl rfl rfl (by decide +kernel)
set_option maxRecDepth 65536 in
theorem w_c3 : (Jvm.Cond.code ({ cls := "java/lang/StringLatin1", name := "toBytes", desc := "(C)[B" } : Jvm.MethodName) jdk_43_method_46_code (1 : Nat) (Option.some (Jvm.ClassFile.FieldType.array Jvm.ClassFile.FieldType.byte))).before args0 about1 = true := code_word (m := ⟨10, 2⟩) (meth := k10m2) (c := k10c2) (by decide +kernel) rfl rfl rfl (by decide +kernel)
set_option maxRecDepth 65536 in
theorem w_c4 : (Jvm.Cond.code ({ cls := "java/lang/String", name := "<init>", desc := "([BB)V" } : Jvm.MethodName) jdk_42_method_151_code (3 : Nat) (Option.none : Option Jvm.ClassFile.FieldType)).before args0 about1 = true := code_word (m := ⟨9, 4⟩) (meth := k9m4) (c := k9c4) (by decide +kernel) rfl rfl rfl (by decide +kernel)
set_option maxRecDepth 65536 in
theorem w_c5 : (Jvm.Cond.code ({ cls := "java/lang/Object", name := "<init>", desc := "()V" } : Jvm.MethodName) object_method_1_code (1 : Nat) (Option.none : Option Jvm.ClassFile.FieldType)).before args0 about1 = true := code_word (m := ⟨0, 0⟩) (meth := k0m0) (c := k0c0) (by decide +kernel) rfl rfl rfl (by decide +kernel)
set_option maxRecDepth 65536 in
theorem w_c6 : (Jvm.Cond.code ({ cls := "com/example/formula_to_count/formulatocount/ProbLogReader$Argument", name := "<init>", desc := "(Lcom/example/formula_to_count/formulatocount/Tokens$Kind;Ljava/lang/String;)V" } : Jvm.MethodName) prog_62_method_1_code (3 : Nat) (Option.none : Option Jvm.ClassFile.FieldType)).before args0 about1 = true := code_word (m := ⟨12, 0⟩) (meth := k12m0) (c := k12c0) (by decide +kernel) rfl rfl rfl (by decide +kernel)
set_option maxRecDepth 65536 in
theorem w_c7 : (Jvm.Cond.code ({ cls := "java/lang/Record", name := "<init>", desc := "()V" } : Jvm.MethodName) jdk_30_method_1_code (1 : Nat) (Option.none : Option Jvm.ClassFile.FieldType)).before args0 about1 = true := code_word (m := ⟨11, 0⟩) (meth := k11m0) (c := k11c0) (by decide +kernel) rfl rfl rfl (by decide +kernel)
set_option maxRecDepth 65536 in
theorem w_c8 : (Jvm.Cond.code ({ cls := "com/example/formula_to_count/formulatocount/ProbLogReader$Argument", name := "isVariable", desc := "()Z" } : Jvm.MethodName) prog_62_method_2_code (1 : Nat) (Option.some Jvm.ClassFile.FieldType.boolean)).before args0 about1 = true := code_word (m := ⟨12, 1⟩) (meth := k12m1) (c := k12c1) (by decide +kernel) rfl rfl rfl (by decide +kernel)
set_option maxRecDepth 65536 in
theorem w_c9 : (Jvm.Cond.code ({ cls := "java/lang/String", name := "<init>", desc := "([C)V" } : Jvm.MethodName) jdk_42_method_3_code (2 : Nat) (Option.none : Option Jvm.ClassFile.FieldType)).before args0 about1 = true := code_word (m := ⟨9, 1⟩) (meth := k9m1) (c := k9c1) (by decide +kernel) rfl rfl rfl (by decide +kernel)
set_option maxRecDepth 65536 in
theorem w_c10 : (Jvm.Cond.code ({ cls := "java/lang/String", name := "<init>", desc := "([CIILjava/lang/Void;)V" } : Jvm.MethodName) jdk_42_method_149_code (6 : Nat) (Option.none : Option Jvm.ClassFile.FieldType)).before args0 about1 = true := code_word (m := ⟨9, 3⟩) (meth := k9m3) (c := k9c3) (by decide +kernel) rfl rfl rfl (by decide +kernel)
set_option maxRecDepth 65536 in
theorem w_c11 : (Jvm.Cond.code ({ cls := "java/lang/StringUTF16", name := "compress", desc := "([CII)[B" } : Jvm.MethodName) jdk_52_method_16_code (6 : Nat) (Option.some (Jvm.ClassFile.FieldType.array Jvm.ClassFile.FieldType.byte))).before args0 about1 = true := code_word (m := ⟨13, 2⟩) (meth := k13m2) (c := k13c2) (by decide +kernel) rfl rfl rfl (by decide +kernel)
set_option maxRecDepth 65536 in
theorem w_c12 : (Jvm.Cond.code ({ cls := "java/lang/StringUTF16", name := "compress", desc := "([CI[BII)I" } : Jvm.MethodName) jdk_52_method_21_code (7 : Nat) (Option.some Jvm.ClassFile.FieldType.int)).before args0 about1 = true := code_word (m := ⟨13, 3⟩) (meth := k13m3) (c := k13c3) (by decide +kernel) rfl rfl rfl (by decide +kernel)
set_option maxRecDepth 65536 in
theorem w_c13 : (Jvm.Cond.code ({ cls := "java/lang/StringUTF16", name := "coderFromArrayLen", desc := "([BI)B" } : Jvm.MethodName) jdk_52_method_15_code (2 : Nat) (Option.some Jvm.ClassFile.FieldType.byte)).before args0 about1 = true := code_word (m := ⟨13, 1⟩) (meth := k13m1) (c := k13c1) (by decide +kernel) rfl rfl rfl (by decide +kernel)
def codes1 : List Jvm.Cond := [Jvm.Cond.code x code maxLocals ret, Jvm.Cond.code ({ cls := "java/lang/String", name := "valueOf", desc := "(C)Ljava/lang/String;" } : Jvm.MethodName) jdk_42_method_139_code (1 : Nat) (Option.some (Jvm.ClassFile.FieldType.object "java/lang/String")), Jvm.Cond.code ({ cls := "java/lang/StringLatin1", name := "canEncode", desc := "(C)Z" } : Jvm.MethodName) jdk_43_method_3_code (1 : Nat) (Option.some Jvm.ClassFile.FieldType.boolean), Jvm.Cond.code ({ cls := "java/lang/StringLatin1", name := "toBytes", desc := "(C)[B" } : Jvm.MethodName) jdk_43_method_46_code (1 : Nat) (Option.some (Jvm.ClassFile.FieldType.array Jvm.ClassFile.FieldType.byte)), Jvm.Cond.code ({ cls := "java/lang/String", name := "<init>", desc := "([BB)V" } : Jvm.MethodName) jdk_42_method_151_code (3 : Nat) (Option.none : Option Jvm.ClassFile.FieldType), Jvm.Cond.code ({ cls := "java/lang/Object", name := "<init>", desc := "()V" } : Jvm.MethodName) object_method_1_code (1 : Nat) (Option.none : Option Jvm.ClassFile.FieldType), Jvm.Cond.code ({ cls := "com/example/formula_to_count/formulatocount/ProbLogReader$Argument", name := "<init>", desc := "(Lcom/example/formula_to_count/formulatocount/Tokens$Kind;Ljava/lang/String;)V" } : Jvm.MethodName) prog_62_method_1_code (3 : Nat) (Option.none : Option Jvm.ClassFile.FieldType), Jvm.Cond.code ({ cls := "java/lang/Record", name := "<init>", desc := "()V" } : Jvm.MethodName) jdk_30_method_1_code (1 : Nat) (Option.none : Option Jvm.ClassFile.FieldType), Jvm.Cond.code ({ cls := "com/example/formula_to_count/formulatocount/ProbLogReader$Argument", name := "isVariable", desc := "()Z" } : Jvm.MethodName) prog_62_method_2_code (1 : Nat) (Option.some Jvm.ClassFile.FieldType.boolean), Jvm.Cond.code ({ cls := "java/lang/String", name := "<init>", desc := "([C)V" } : Jvm.MethodName) jdk_42_method_3_code (2 : Nat) (Option.none : Option Jvm.ClassFile.FieldType), Jvm.Cond.code ({ cls := "java/lang/String", name := "<init>", desc := "([CIILjava/lang/Void;)V" } : Jvm.MethodName) jdk_42_method_149_code (6 : Nat) (Option.none : Option Jvm.ClassFile.FieldType), Jvm.Cond.code ({ cls := "java/lang/StringUTF16", name := "compress", desc := "([CII)[B" } : Jvm.MethodName) jdk_52_method_16_code (6 : Nat) (Option.some (Jvm.ClassFile.FieldType.array Jvm.ClassFile.FieldType.byte)), Jvm.Cond.code ({ cls := "java/lang/StringUTF16", name := "compress", desc := "([CI[BII)I" } : Jvm.MethodName) jdk_52_method_21_code (7 : Nat) (Option.some Jvm.ClassFile.FieldType.int), Jvm.Cond.code ({ cls := "java/lang/StringUTF16", name := "coderFromArrayLen", desc := "([BI)B" } : Jvm.MethodName) jdk_52_method_15_code (2 : Nat) (Option.some Jvm.ClassFile.FieldType.byte)]
set_option maxRecDepth 65536 in
theorem codes_eq : words1.filter isCode = codes1 := rfl
theorem w_codes : ∀ c ∈ words1.filter isCode, c.before args0 about1 = true := by
  rw [codes_eq]
  intro c hc
  simp only [codes1, List.mem_cons, List.not_mem_nil, or_false] at hc
  rcases hc with rfl | rfl | rfl | rfl | rfl | rfl | rfl | rfl | rfl | rfl | rfl | rfl | rfl | rfl
  · exact w_c0
  · exact w_c1
  · exact w_c2
  · exact w_c3
  · exact w_c4
  · exact w_c5
  · exact w_c6
  · exact w_c7
  · exact w_c8
  · exact w_c9
  · exact w_c10
  · exact w_c11
  · exact w_c12
  · exact w_c13
set_option maxRecDepth 65536 in
theorem w_t1 : (words1.take 24).all (fun c => isCode c || c.before args0 about1) = true := by decide +kernel
set_option maxRecDepth 65536 in
theorem w_t2 : ((words1.drop 24).take 24).all (fun c => isCode c || c.before args0 about1) = true := by decide +kernel
set_option maxRecDepth 65536 in
theorem w_t3 : (((words1.drop 24).drop 24).take 24).all (fun c => isCode c || c.before args0 about1) = true := by decide +kernel
set_option maxRecDepth 65536 in
theorem w_t4 : ((((words1.drop 24).drop 24).drop 24).take 24).all (fun c => isCode c || c.before args0 about1) = true := by decide +kernel
set_option maxRecDepth 65536 in
theorem w_t5 : ((((words1.drop 24).drop 24).drop 24).drop 24).all (fun c => isCode c || c.before args0 about1) = true := by decide +kernel
theorem w_tables : (allAtoms (Jvm.Cond.code x code maxLocals ret :: tables_1)).before args0 about1 = true := by
  rw [allAtoms_all]
  show words1.all (fun c => c.before args0 about1) = true
  refine all_split ?_ w_codes
  rw [← List.take_append_drop 24 words1, List.all_append, w_t1, ← List.take_append_drop 24 (words1.drop 24), List.all_append, w_t2, ← List.take_append_drop 24 ((words1.drop 24).drop 24), List.all_append, w_t3, ← List.take_append_drop 24 (((words1.drop 24).drop 24).drop 24), List.all_append, w_t4, w_t5]
  rfl
set_option maxRecDepth 65536 in
theorem w_rest : rest_1_c.before args0 about1 = true := by decide +kernel
set_option maxRecDepth 65536 in
theorem w_case : (Jvm.Cond.and given_1 narrow_1).before args0 about1 = true := by decide +kernel
set_option maxRecDepth 65536 in
theorem w_consts : constsHeld consts_1 about1 := Jvm.Lit.constsHeldB_iff.mp (by decide +kernel)
theorem w_applies : (headSpec (Jvm.Cond.code x code maxLocals ret :: tables_1) room_1).applies x e0.platform about1 = true :=
  (Spec.applies_iff w_frames).mpr ⟨w_running, w_runnable, w_alone, w_named, w_hears, w_ripe, w_room, w_tables⟩
theorem atStart : AtStart classFile x code maxLocals ret World_1 tables_1 room_1 Calls_1 rest_1 Pre_1 launch0 p0 e0 about1 theMethod args0 below0 :=
  ⟨lists_1, trivial, launch0.admits_env _ _ _, launch0.least_env, fairChoices_fair.cas, fairChoices_fair.clock, w_frames, w_args, w_heap, w_applies, ⟨w_consts, trivial⟩, w_rest, w_case⟩
end start1
theorem witness_1 : WitnessClaimed_1 := ⟨start1.p0, start1.e0, start1.about1, start1.theMethod, start1.args0, start1.below0, start1.atStart⟩
end Jvm.Pilot.@@N@@
