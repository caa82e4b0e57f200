import JvmDerived
import JvmDerived.Pilot.@@N@@Statement
import JvmDerived.Pilot.@@N@@Code
set_option linter.unusedVariables false
set_option linter.unusedSimpArgs false
namespace Jvm.RoadKit
open Sem ClassFile Op Lib Jvm.Stand Jvm.Free Jvm.LawKit
section New
variable {p : Program} {l : Launch} {e : Env} {R : Room} {s : State} {m : MethodId} {args : Array Value} {below : List Frame} {meth : Method} {c : Code} {T : State} {locs : List Loc} {cells slots : Nat}
theorem retI (X : Stand p l e R s m args below meth c T locs cells slots) (hx : p.tables.exec = Jvm.exec) {pc : Nat} {Ls : Array Slot} {z : Int32} {rest : List Value} (hret : meth.sig.returnType = some .int) (hd : decode c.code pc = .ok (.ireturn, 1)) {fs : List Frame}
    (hl : ∀ (f : JFrame) (acts : List Action), f.method = m → f.locked = none → f.entered = [] → (doReturn e (T.setTop f) acts (some (.int z))).1 = T.setFrames fs) : Steps p.tables e below (T.setTop (mkF m pc Ls (.int z :: rest))) (T.setFrames fs) := by
  have hm' : T.vm.method? m = some meth := X.method'
  have hn : narrow .int (.int z) = .int z := rfl
  show Steps p.tables e below (T.setTop { method := m, pc := pc, locals := Ls, stack := _ :: rest, locked := none }) _
  jvm_step X.here [X.here.top, hx, hd, hm', hret, hn]
  first | (intro acts; rw [hl _ acts rfl rfl rfl]) | rw [hl _ _ rfl rfl rfl]
  exact Steps.refl _
theorem lremM {g : JFrame} {target : State} (X : Stand p l e R s m args below meth c T locs cells slots) (hx : p.tables.exec = Jvm.exec) (hg : g.method = m) {x y : Int64} {rest : List Value} (hd : decode c.code g.pc = .ok (.lrem, 1)) (hs : g.stack = .long y :: .long x :: rest) (hy : y ≠ 0)
    (hr : Steps p.tables e below (T.setTop { g with pc := g.pc + 1, stack := .long (x % y) :: rest }) target) : Steps p.tables e below (T.setTop g) target := by
  have q : x - x / y * y = x % y := lrem_mod x y
  exact XS.lrem X.here hx hg hd hs hy (by rw [q]; exact hr)
/-- from the state t the invocation ends as Q says -/
def Done (p : Program) (e : Env) (below : List Frame) (Q : Outcome → State → Prop) (t : State) : Prop := ∃ s₂ o, Steps p.tables e below t s₂ ∧ s₂.status = .running ∧ Ended s₂ below o ∧ Q o s₂
theorem Done.of {p : Program} {e : Env} {below : List Frame} {Q : Outcome → State → Prop} {t t' : State} (h : Done p e below Q t') (k : ∀ target, Steps p.tables e below t' target → Steps p.tables e below t target) : Done p e below Q t := by
  obtain ⟨s₂, o, h1, h2⟩ := h
  exact ⟨s₂, o, k _ h1, h2⟩
end New
end Jvm.RoadKit
namespace Jvm.Pilot.@@N@@
open Jvm Jvm.ClassFile Sem Op Lib Jvm.Free Jvm.Stand Jvm.LawKit Jvm.RoadKit Bundle Jvm.Pilot.@@N@@.Jvm.D
theorem own_eqint {args : Array Value} {s : State} {t : Term} {k : Int32} (h : (Jvm.Cond.eq t (.int k)).value args s none s [] = some true) : t.eval args s none [] s = some (.int k) := by
  simp only [Cond.value, Term.eval] at h
  cases ht : t.eval args s none [] s with
  | none => simp [ht] at h
  | some x => cases x <;> simp [ht] at h ⊢; exact h
def own_ff (n : Nat) : Int32 := if n = 0 then 9 else if n = 1 then 12 else if n = 2 then 6 else if n = 3 then 9 else if n = 4 then 8 else if n = 5 then 6 else if n = 6 then 3 else if n = 7 then 6 else if n = 8 then 4 else if n = 9 then 4 else if n = 10 then 4 else if n = 11 then 3 else 5

theorem own_idx (k : Int32) : 0 ≤ ((k &&& (2147483647 : Int32)) % (13 : Int32)).toInt ∧ ((k &&& (2147483647 : Int32)) % (13 : Int32)).toInt < 13 := by
  have h1 := c_mask k (2147483647 : Int32) 31 (by decide) (by decide)
  have h2 := (c_irem (k &&& (2147483647 : Int32)) (13 : Int32) 13 (by decide)).1 (by omega)
  omega
theorem own_is {p : Int32} {k : Int32} {n : Nat} (h : p = k) (hk : k.toInt = (n : Int)) : p.toInt = (n : Int) := by rw [h]; exact hk
theorem own_isnt {p : Int32} {k : Int32} {n : Nat} (h : ¬ p = k) (hk : k.toInt = (n : Int)) : p.toInt ≠ (n : Int) := fun q => h (Int32.toInt_inj.mp (by rw [q, hk]))

theorem own_idx2 {i k : Int32} (h : i = ((k &&& (2147483647 : Int32)) % (13 : Int32))) : 0 ≤ i.toInt ∧ i.toInt < 13 := by rw [h]; exact own_idx k
theorem d1_0 : decode method_3_code 0 = .ok (.iload_n 0, 1) := by decide +kernel
theorem d1_1 : decode method_3_code 1 = .ok (.ifCond .ne 6, 3) := by decide +kernel
theorem d1_4 : decode method_3_code 4 = .ok (.bipush 9, 2) := by decide +kernel
theorem d1_6 : decode method_3_code 6 = .ok (.ireturn, 1) := by decide +kernel
theorem d1_7 : decode method_3_code 7 = .ok (.iload_n 0, 1) := by decide +kernel
theorem d1_8 : decode method_3_code 8 = .ok (.iconst 1, 1) := by decide +kernel
theorem d1_9 : decode method_3_code 9 = .ok (.if_icmp .ne 6, 3) := by decide +kernel
theorem d1_12 : decode method_3_code 12 = .ok (.bipush 12, 2) := by decide +kernel
theorem d1_14 : decode method_3_code 14 = .ok (.ireturn, 1) := by decide +kernel
theorem d1_15 : decode method_3_code 15 = .ok (.iload_n 0, 1) := by decide +kernel
theorem d1_16 : decode method_3_code 16 = .ok (.iconst 2, 1) := by decide +kernel
theorem d1_17 : decode method_3_code 17 = .ok (.if_icmp .ne 6, 3) := by decide +kernel
theorem d1_20 : decode method_3_code 20 = .ok (.bipush 6, 2) := by decide +kernel
theorem d1_22 : decode method_3_code 22 = .ok (.ireturn, 1) := by decide +kernel
theorem d1_23 : decode method_3_code 23 = .ok (.iload_n 0, 1) := by decide +kernel
theorem d1_24 : decode method_3_code 24 = .ok (.iconst 3, 1) := by decide +kernel
theorem d1_25 : decode method_3_code 25 = .ok (.if_icmp .ne 6, 3) := by decide +kernel
theorem d1_28 : decode method_3_code 28 = .ok (.bipush 9, 2) := by decide +kernel
theorem d1_30 : decode method_3_code 30 = .ok (.ireturn, 1) := by decide +kernel
theorem d1_31 : decode method_3_code 31 = .ok (.iload_n 0, 1) := by decide +kernel
theorem d1_32 : decode method_3_code 32 = .ok (.iconst 4, 1) := by decide +kernel
theorem d1_33 : decode method_3_code 33 = .ok (.if_icmp .ne 6, 3) := by decide +kernel
theorem d1_36 : decode method_3_code 36 = .ok (.bipush 8, 2) := by decide +kernel
theorem d1_38 : decode method_3_code 38 = .ok (.ireturn, 1) := by decide +kernel
theorem d1_39 : decode method_3_code 39 = .ok (.iload_n 0, 1) := by decide +kernel
theorem d1_40 : decode method_3_code 40 = .ok (.iconst 5, 1) := by decide +kernel
theorem d1_41 : decode method_3_code 41 = .ok (.if_icmp .ne 6, 3) := by decide +kernel
theorem d1_44 : decode method_3_code 44 = .ok (.bipush 6, 2) := by decide +kernel
theorem d1_46 : decode method_3_code 46 = .ok (.ireturn, 1) := by decide +kernel
theorem d1_47 : decode method_3_code 47 = .ok (.iload_n 0, 1) := by decide +kernel
theorem d1_48 : decode method_3_code 48 = .ok (.bipush 6, 2) := by decide +kernel
theorem d1_50 : decode method_3_code 50 = .ok (.if_icmp .ne 5, 3) := by decide +kernel
theorem d1_53 : decode method_3_code 53 = .ok (.iconst 3, 1) := by decide +kernel
theorem d1_54 : decode method_3_code 54 = .ok (.ireturn, 1) := by decide +kernel
theorem d1_55 : decode method_3_code 55 = .ok (.iload_n 0, 1) := by decide +kernel
theorem d1_56 : decode method_3_code 56 = .ok (.bipush 7, 2) := by decide +kernel
theorem d1_58 : decode method_3_code 58 = .ok (.if_icmp .ne 6, 3) := by decide +kernel
theorem d1_61 : decode method_3_code 61 = .ok (.bipush 6, 2) := by decide +kernel
theorem d1_63 : decode method_3_code 63 = .ok (.ireturn, 1) := by decide +kernel
theorem d1_64 : decode method_3_code 64 = .ok (.iload_n 0, 1) := by decide +kernel
theorem d1_65 : decode method_3_code 65 = .ok (.bipush 8, 2) := by decide +kernel
theorem d1_67 : decode method_3_code 67 = .ok (.if_icmp .ne 5, 3) := by decide +kernel
theorem d1_70 : decode method_3_code 70 = .ok (.iconst 4, 1) := by decide +kernel
theorem d1_71 : decode method_3_code 71 = .ok (.ireturn, 1) := by decide +kernel
theorem d1_72 : decode method_3_code 72 = .ok (.iload_n 0, 1) := by decide +kernel
theorem d1_73 : decode method_3_code 73 = .ok (.bipush 9, 2) := by decide +kernel
theorem d1_75 : decode method_3_code 75 = .ok (.if_icmp .ne 5, 3) := by decide +kernel
theorem d1_78 : decode method_3_code 78 = .ok (.iconst 4, 1) := by decide +kernel
theorem d1_79 : decode method_3_code 79 = .ok (.ireturn, 1) := by decide +kernel
theorem d1_80 : decode method_3_code 80 = .ok (.iload_n 0, 1) := by decide +kernel
theorem d1_81 : decode method_3_code 81 = .ok (.bipush 10, 2) := by decide +kernel
theorem d1_83 : decode method_3_code 83 = .ok (.if_icmp .ne 5, 3) := by decide +kernel
theorem d1_86 : decode method_3_code 86 = .ok (.iconst 4, 1) := by decide +kernel
theorem d1_87 : decode method_3_code 87 = .ok (.ireturn, 1) := by decide +kernel
theorem d1_88 : decode method_3_code 88 = .ok (.iload_n 0, 1) := by decide +kernel
theorem d1_89 : decode method_3_code 89 = .ok (.bipush 11, 2) := by decide +kernel
theorem d1_91 : decode method_3_code 91 = .ok (.if_icmp .ne 5, 3) := by decide +kernel
theorem d1_94 : decode method_3_code 94 = .ok (.iconst 3, 1) := by decide +kernel
theorem d1_95 : decode method_3_code 95 = .ok (.ireturn, 1) := by decide +kernel
theorem d1_96 : decode method_3_code 96 = .ok (.iconst 5, 1) := by decide +kernel
theorem d1_97 : decode method_3_code 97 = .ok (.ireturn, 1) := by decide +kernel
theorem pn_1 : plainName "com/example/brokerwire/brokerwire/ApiKeyIsFlexiblePinLaw" = true := by first | (simp [plainName, overriddenIn]; done) | decide +kernel
theorem ef_1 (m : MethodId) (p0 : Int32)  : entryFrame m #[(.int p0)] 1 = mkF m 0 #[.val (.int p0)] [] := by first | (simp [entryFrame, mkF, argsToLocals, Value.category]; done) | rfl
def Q1 (Z : State) (p0 : Int32) (h0 : Heap) (n0 : Nat) (v : Option Value) (h : Heap) (L : List Loc) : Prop := ∃ n : Nat, v = some (.int (own_ff n)) ∧ Fr n0 L ∧ h = h0 ∧ n < 13 ∧ p0.toInt = (n : Int)
set_option maxRecDepth 65536 in
set_option maxHeartbeats 40000000 in
theorem rm1 (l : Launch) (Z : State) (a0 : Array Value) (hw : ∀ d ∈ tables_1, d.before a0 Z = true) (ws : List Jvm.Cond) (p0 : Int32) (h0 : Heap) (n0 : Nat) (Z0 : n0 ≤ h0.size) (hlo : 0 ≤ p0.toInt) (hhi : p0.toInt < 13) :
    MetFree l (⟨"com/example/brokerwire/brokerwire/ApiKeyIsFlexiblePinLaw", "firstFlexible", "(I)I"⟩ : MethodName) (head1 (Jvm.Cond.code (⟨"com/example/brokerwire/brokerwire/ApiKeyIsFlexiblePinLaw", "firstFlexible", "(I)I"⟩ : MethodName) method_3_code 1 (some .int) :: ws) ({ frames := 0, cells := 0, slots := 0, locals := 0 } : Room)) (fun a U => a = #[(.int p0)] ∧ Z.Warmed39 U.vm ∧ U.heap = h0) (fun _ _ _ _ _ => True) (fun _ U o U' => ∃ v L, o = .returned v ∧ Q1 Z p0 h0 n0 v U'.heap L ∧ FrameEnd U o U' L ({ frames := 0, cells := 0, slots := 0, locals := 0 } : Room).cells ({ frames := 0, cells := 0, slots := 0, locals := 0 } : Room).slots) := by
  refine MetFree.of_bodySF (plainFor_of_name pn_1) hisR ?_
  intro p e s m args below meth c s₁ Bd hml0 hP hK
  obtain ⟨rfl, hZ, hh⟩ := hP
  have hx := Bd.exec
  have hby := Bd.bytes
  have hml : c.maxLocals = 1 := hml0
  have hown : s.vm.findClass "com/example/brokerwire/brokerwire/ApiKeyIsFlexiblePinLaw" = some m.cls := findClass_of_methodNamed Bd.named
  have hnm := (name_of_methodNamed Bd.named Bd.method).1
  have X0 : Stand p l e ({ frames := 0, cells := 0, slots := 0, locals := 0 } : Room) s m #[(.int p0)] below meth c s₁ [] 0 0 := Stand.of_body Bd
  have e0 : s₁.heap = h0 := by rw [← hh, Bd.state]; rfl
  have N0 := Fr.nil n0
  have pre0 : ∀ t, Steps p.tables e below (s₁.setTop (mkF m 0 #[.val (.int p0)] [])) t → Steps p.tables e below (s₁.setTop (entryFrame m #[(.int p0)] 1)) t := fun t k => castTop (ef_1 m p0) k
  show Done p e below _ _
  refine Done.of ?_ pre0
  have K1 : ∀ target, Steps p.tables e below (s₁.setTop (mkF m 1 #[.val (.int p0)] [(.int p0)])) target → Steps p.tables e below (s₁.setTop (mkF m 0 #[.val (.int p0)] [])) target := by
    intro target kt
    show Steps p.tables e below (s₁.setTop (mkF m 0 #[.val (.int p0)] [])) _
    refine XS.iloadN X0.here hx rfl (hb hby d1_0) rfl ?_
    exact kt
  refine Done.of ?_ K1
  by_cases hc1_2 : p0 = (0 : Int32)
  · have K : ∀ target, Steps p.tables e below (s₁.setTop (mkF m 4 #[.val (.int p0)] [])) target → Steps p.tables e below (s₁.setTop (mkF m 1 #[.val (.int p0)] [(.int p0)])) target := by
      intro target kt
      refine XS.ifNo X0.here hx rfl (hb hby d1_1) rfl ((if0 _ _).trans (teq hc1_2).2) ?_
      exact kt
    refine Done.of ?_ K
    obtain ⟨fs, hr, hrun, hended, hW, hsame⟩ := X0.leave (v := some (.int (9 : Int32))) (fun h => by rw [Bd.returns] at h; cases h)
    refine ⟨_, _, ?_, hrun, hended, _, _, rfl, ?_, ⟨_, rfl⟩, hW, hsame.mono (by decide) (by decide)⟩
    · show Steps p.tables e below (s₁.setTop (mkF m 4 #[.val (.int p0)] [])) _
      refine XS.bipush X0.here hx rfl (hb hby d1_4) ?_
      show Steps p.tables e below (s₁.setTop (mkF m 6 #[.val (.int p0)] [(.int (9 : Int32))])) _
      exact retI X0 hx Bd.returns (hb hby d1_6) hr
    · show Q1 Z p0  h0 n0 _ s₁.heap _
      rw [e0]
      have c0 := own_is hc1_2 (n := 0) (by decide)
      have cn : p0.toInt = ((0 : Nat) : Int) := by omega
      refine ⟨0, ?_, N0, rfl, by decide, cn⟩
      rfl
  · have K : ∀ target, Steps p.tables e below (s₁.setTop (mkF m 7 #[.val (.int p0)] [])) target → Steps p.tables e below (s₁.setTop (mkF m 1 #[.val (.int p0)] [(.int p0)])) target := by
      intro target kt
      refine XS.ifYes X0.here hx rfl (pc0 := 1) (pc' := 7) rfl (hb hby d1_1) rfl ((if0 _ _).trans (feq hc1_2).2) (by decide) (by decide) ?_
      exact kt
    refine Done.of ?_ K
    have K3 : ∀ target, Steps p.tables e below (s₁.setTop (mkF m 9 #[.val (.int p0)] [(.int (1 : Int32)), (.int p0)])) target → Steps p.tables e below (s₁.setTop (mkF m 7 #[.val (.int p0)] [])) target := by
      intro target kt
      show Steps p.tables e below (s₁.setTop (mkF m 7 #[.val (.int p0)] [])) _
      refine XS.iloadN X0.here hx rfl (hb hby d1_7) rfl ?_
      show Steps p.tables e below (s₁.setTop (mkF m 8 #[.val (.int p0)] [(.int p0)])) _
      refine XS.iconst X0.here hx rfl (hb hby d1_8) ?_
      exact kt
    refine Done.of ?_ K3
    by_cases hc9_4 : p0 = (1 : Int32)
    · have K : ∀ target, Steps p.tables e below (s₁.setTop (mkF m 12 #[.val (.int p0)] [])) target → Steps p.tables e below (s₁.setTop (mkF m 9 #[.val (.int p0)] [(.int (1 : Int32)), (.int p0)])) target := by
        intro target kt
        refine XS.icmpNo X0.here hx rfl (hb hby d1_9) rfl (teq hc9_4).2 ?_
        exact kt
      refine Done.of ?_ K
      obtain ⟨fs, hr, hrun, hended, hW, hsame⟩ := X0.leave (v := some (.int (12 : Int32))) (fun h => by rw [Bd.returns] at h; cases h)
      refine ⟨_, _, ?_, hrun, hended, _, _, rfl, ?_, ⟨_, rfl⟩, hW, hsame.mono (by decide) (by decide)⟩
      · show Steps p.tables e below (s₁.setTop (mkF m 12 #[.val (.int p0)] [])) _
        refine XS.bipush X0.here hx rfl (hb hby d1_12) ?_
        show Steps p.tables e below (s₁.setTop (mkF m 14 #[.val (.int p0)] [(.int (12 : Int32))])) _
        exact retI X0 hx Bd.returns (hb hby d1_14) hr
      · show Q1 Z p0  h0 n0 _ s₁.heap _
        rw [e0]
        have c0 := own_isnt hc1_2 (n := 0) (by decide)
        have c1 := own_is hc9_4 (n := 1) (by decide)
        have cn : p0.toInt = ((1 : Nat) : Int) := by omega
        refine ⟨1, ?_, N0, rfl, by decide, cn⟩
        rfl
    · have K : ∀ target, Steps p.tables e below (s₁.setTop (mkF m 15 #[.val (.int p0)] [])) target → Steps p.tables e below (s₁.setTop (mkF m 9 #[.val (.int p0)] [(.int (1 : Int32)), (.int p0)])) target := by
        intro target kt
        refine XS.icmpYes X0.here hx rfl (pc0 := 9) (pc' := 15) rfl (hb hby d1_9) rfl (feq hc9_4).2 (by decide) (by decide) ?_
        exact kt
      refine Done.of ?_ K
      have K5 : ∀ target, Steps p.tables e below (s₁.setTop (mkF m 17 #[.val (.int p0)] [(.int (2 : Int32)), (.int p0)])) target → Steps p.tables e below (s₁.setTop (mkF m 15 #[.val (.int p0)] [])) target := by
        intro target kt
        show Steps p.tables e below (s₁.setTop (mkF m 15 #[.val (.int p0)] [])) _
        refine XS.iloadN X0.here hx rfl (hb hby d1_15) rfl ?_
        show Steps p.tables e below (s₁.setTop (mkF m 16 #[.val (.int p0)] [(.int p0)])) _
        refine XS.iconst X0.here hx rfl (hb hby d1_16) ?_
        exact kt
      refine Done.of ?_ K5
      by_cases hc17_6 : p0 = (2 : Int32)
      · have K : ∀ target, Steps p.tables e below (s₁.setTop (mkF m 20 #[.val (.int p0)] [])) target → Steps p.tables e below (s₁.setTop (mkF m 17 #[.val (.int p0)] [(.int (2 : Int32)), (.int p0)])) target := by
          intro target kt
          refine XS.icmpNo X0.here hx rfl (hb hby d1_17) rfl (teq hc17_6).2 ?_
          exact kt
        refine Done.of ?_ K
        obtain ⟨fs, hr, hrun, hended, hW, hsame⟩ := X0.leave (v := some (.int (6 : Int32))) (fun h => by rw [Bd.returns] at h; cases h)
        refine ⟨_, _, ?_, hrun, hended, _, _, rfl, ?_, ⟨_, rfl⟩, hW, hsame.mono (by decide) (by decide)⟩
        · show Steps p.tables e below (s₁.setTop (mkF m 20 #[.val (.int p0)] [])) _
          refine XS.bipush X0.here hx rfl (hb hby d1_20) ?_
          show Steps p.tables e below (s₁.setTop (mkF m 22 #[.val (.int p0)] [(.int (6 : Int32))])) _
          exact retI X0 hx Bd.returns (hb hby d1_22) hr
        · show Q1 Z p0  h0 n0 _ s₁.heap _
          rw [e0]
          have c0 := own_isnt hc1_2 (n := 0) (by decide)
          have c1 := own_isnt hc9_4 (n := 1) (by decide)
          have c2 := own_is hc17_6 (n := 2) (by decide)
          have cn : p0.toInt = ((2 : Nat) : Int) := by omega
          refine ⟨2, ?_, N0, rfl, by decide, cn⟩
          rfl
      · have K : ∀ target, Steps p.tables e below (s₁.setTop (mkF m 23 #[.val (.int p0)] [])) target → Steps p.tables e below (s₁.setTop (mkF m 17 #[.val (.int p0)] [(.int (2 : Int32)), (.int p0)])) target := by
          intro target kt
          refine XS.icmpYes X0.here hx rfl (pc0 := 17) (pc' := 23) rfl (hb hby d1_17) rfl (feq hc17_6).2 (by decide) (by decide) ?_
          exact kt
        refine Done.of ?_ K
        have K7 : ∀ target, Steps p.tables e below (s₁.setTop (mkF m 25 #[.val (.int p0)] [(.int (3 : Int32)), (.int p0)])) target → Steps p.tables e below (s₁.setTop (mkF m 23 #[.val (.int p0)] [])) target := by
          intro target kt
          show Steps p.tables e below (s₁.setTop (mkF m 23 #[.val (.int p0)] [])) _
          refine XS.iloadN X0.here hx rfl (hb hby d1_23) rfl ?_
          show Steps p.tables e below (s₁.setTop (mkF m 24 #[.val (.int p0)] [(.int p0)])) _
          refine XS.iconst X0.here hx rfl (hb hby d1_24) ?_
          exact kt
        refine Done.of ?_ K7
        by_cases hc25_8 : p0 = (3 : Int32)
        · have K : ∀ target, Steps p.tables e below (s₁.setTop (mkF m 28 #[.val (.int p0)] [])) target → Steps p.tables e below (s₁.setTop (mkF m 25 #[.val (.int p0)] [(.int (3 : Int32)), (.int p0)])) target := by
            intro target kt
            refine XS.icmpNo X0.here hx rfl (hb hby d1_25) rfl (teq hc25_8).2 ?_
            exact kt
          refine Done.of ?_ K
          obtain ⟨fs, hr, hrun, hended, hW, hsame⟩ := X0.leave (v := some (.int (9 : Int32))) (fun h => by rw [Bd.returns] at h; cases h)
          refine ⟨_, _, ?_, hrun, hended, _, _, rfl, ?_, ⟨_, rfl⟩, hW, hsame.mono (by decide) (by decide)⟩
          · show Steps p.tables e below (s₁.setTop (mkF m 28 #[.val (.int p0)] [])) _
            refine XS.bipush X0.here hx rfl (hb hby d1_28) ?_
            show Steps p.tables e below (s₁.setTop (mkF m 30 #[.val (.int p0)] [(.int (9 : Int32))])) _
            exact retI X0 hx Bd.returns (hb hby d1_30) hr
          · show Q1 Z p0  h0 n0 _ s₁.heap _
            rw [e0]
            have c0 := own_isnt hc1_2 (n := 0) (by decide)
            have c1 := own_isnt hc9_4 (n := 1) (by decide)
            have c2 := own_isnt hc17_6 (n := 2) (by decide)
            have c3 := own_is hc25_8 (n := 3) (by decide)
            have cn : p0.toInt = ((3 : Nat) : Int) := by omega
            refine ⟨3, ?_, N0, rfl, by decide, cn⟩
            rfl
        · have K : ∀ target, Steps p.tables e below (s₁.setTop (mkF m 31 #[.val (.int p0)] [])) target → Steps p.tables e below (s₁.setTop (mkF m 25 #[.val (.int p0)] [(.int (3 : Int32)), (.int p0)])) target := by
            intro target kt
            refine XS.icmpYes X0.here hx rfl (pc0 := 25) (pc' := 31) rfl (hb hby d1_25) rfl (feq hc25_8).2 (by decide) (by decide) ?_
            exact kt
          refine Done.of ?_ K
          have K9 : ∀ target, Steps p.tables e below (s₁.setTop (mkF m 33 #[.val (.int p0)] [(.int (4 : Int32)), (.int p0)])) target → Steps p.tables e below (s₁.setTop (mkF m 31 #[.val (.int p0)] [])) target := by
            intro target kt
            show Steps p.tables e below (s₁.setTop (mkF m 31 #[.val (.int p0)] [])) _
            refine XS.iloadN X0.here hx rfl (hb hby d1_31) rfl ?_
            show Steps p.tables e below (s₁.setTop (mkF m 32 #[.val (.int p0)] [(.int p0)])) _
            refine XS.iconst X0.here hx rfl (hb hby d1_32) ?_
            exact kt
          refine Done.of ?_ K9
          by_cases hc33_10 : p0 = (4 : Int32)
          · have K : ∀ target, Steps p.tables e below (s₁.setTop (mkF m 36 #[.val (.int p0)] [])) target → Steps p.tables e below (s₁.setTop (mkF m 33 #[.val (.int p0)] [(.int (4 : Int32)), (.int p0)])) target := by
              intro target kt
              refine XS.icmpNo X0.here hx rfl (hb hby d1_33) rfl (teq hc33_10).2 ?_
              exact kt
            refine Done.of ?_ K
            obtain ⟨fs, hr, hrun, hended, hW, hsame⟩ := X0.leave (v := some (.int (8 : Int32))) (fun h => by rw [Bd.returns] at h; cases h)
            refine ⟨_, _, ?_, hrun, hended, _, _, rfl, ?_, ⟨_, rfl⟩, hW, hsame.mono (by decide) (by decide)⟩
            · show Steps p.tables e below (s₁.setTop (mkF m 36 #[.val (.int p0)] [])) _
              refine XS.bipush X0.here hx rfl (hb hby d1_36) ?_
              show Steps p.tables e below (s₁.setTop (mkF m 38 #[.val (.int p0)] [(.int (8 : Int32))])) _
              exact retI X0 hx Bd.returns (hb hby d1_38) hr
            · show Q1 Z p0  h0 n0 _ s₁.heap _
              rw [e0]
              have c0 := own_isnt hc1_2 (n := 0) (by decide)
              have c1 := own_isnt hc9_4 (n := 1) (by decide)
              have c2 := own_isnt hc17_6 (n := 2) (by decide)
              have c3 := own_isnt hc25_8 (n := 3) (by decide)
              have c4 := own_is hc33_10 (n := 4) (by decide)
              have cn : p0.toInt = ((4 : Nat) : Int) := by omega
              refine ⟨4, ?_, N0, rfl, by decide, cn⟩
              rfl
          · have K : ∀ target, Steps p.tables e below (s₁.setTop (mkF m 39 #[.val (.int p0)] [])) target → Steps p.tables e below (s₁.setTop (mkF m 33 #[.val (.int p0)] [(.int (4 : Int32)), (.int p0)])) target := by
              intro target kt
              refine XS.icmpYes X0.here hx rfl (pc0 := 33) (pc' := 39) rfl (hb hby d1_33) rfl (feq hc33_10).2 (by decide) (by decide) ?_
              exact kt
            refine Done.of ?_ K
            have K11 : ∀ target, Steps p.tables e below (s₁.setTop (mkF m 41 #[.val (.int p0)] [(.int (5 : Int32)), (.int p0)])) target → Steps p.tables e below (s₁.setTop (mkF m 39 #[.val (.int p0)] [])) target := by
              intro target kt
              show Steps p.tables e below (s₁.setTop (mkF m 39 #[.val (.int p0)] [])) _
              refine XS.iloadN X0.here hx rfl (hb hby d1_39) rfl ?_
              show Steps p.tables e below (s₁.setTop (mkF m 40 #[.val (.int p0)] [(.int p0)])) _
              refine XS.iconst X0.here hx rfl (hb hby d1_40) ?_
              exact kt
            refine Done.of ?_ K11
            by_cases hc41_12 : p0 = (5 : Int32)
            · have K : ∀ target, Steps p.tables e below (s₁.setTop (mkF m 44 #[.val (.int p0)] [])) target → Steps p.tables e below (s₁.setTop (mkF m 41 #[.val (.int p0)] [(.int (5 : Int32)), (.int p0)])) target := by
                intro target kt
                refine XS.icmpNo X0.here hx rfl (hb hby d1_41) rfl (teq hc41_12).2 ?_
                exact kt
              refine Done.of ?_ K
              obtain ⟨fs, hr, hrun, hended, hW, hsame⟩ := X0.leave (v := some (.int (6 : Int32))) (fun h => by rw [Bd.returns] at h; cases h)
              refine ⟨_, _, ?_, hrun, hended, _, _, rfl, ?_, ⟨_, rfl⟩, hW, hsame.mono (by decide) (by decide)⟩
              · show Steps p.tables e below (s₁.setTop (mkF m 44 #[.val (.int p0)] [])) _
                refine XS.bipush X0.here hx rfl (hb hby d1_44) ?_
                show Steps p.tables e below (s₁.setTop (mkF m 46 #[.val (.int p0)] [(.int (6 : Int32))])) _
                exact retI X0 hx Bd.returns (hb hby d1_46) hr
              · show Q1 Z p0  h0 n0 _ s₁.heap _
                rw [e0]
                have c0 := own_isnt hc1_2 (n := 0) (by decide)
                have c1 := own_isnt hc9_4 (n := 1) (by decide)
                have c2 := own_isnt hc17_6 (n := 2) (by decide)
                have c3 := own_isnt hc25_8 (n := 3) (by decide)
                have c4 := own_isnt hc33_10 (n := 4) (by decide)
                have c5 := own_is hc41_12 (n := 5) (by decide)
                have cn : p0.toInt = ((5 : Nat) : Int) := by omega
                refine ⟨5, ?_, N0, rfl, by decide, cn⟩
                rfl
            · have K : ∀ target, Steps p.tables e below (s₁.setTop (mkF m 47 #[.val (.int p0)] [])) target → Steps p.tables e below (s₁.setTop (mkF m 41 #[.val (.int p0)] [(.int (5 : Int32)), (.int p0)])) target := by
                intro target kt
                refine XS.icmpYes X0.here hx rfl (pc0 := 41) (pc' := 47) rfl (hb hby d1_41) rfl (feq hc41_12).2 (by decide) (by decide) ?_
                exact kt
              refine Done.of ?_ K
              have K13 : ∀ target, Steps p.tables e below (s₁.setTop (mkF m 50 #[.val (.int p0)] [(.int (6 : Int32)), (.int p0)])) target → Steps p.tables e below (s₁.setTop (mkF m 47 #[.val (.int p0)] [])) target := by
                intro target kt
                show Steps p.tables e below (s₁.setTop (mkF m 47 #[.val (.int p0)] [])) _
                refine XS.iloadN X0.here hx rfl (hb hby d1_47) rfl ?_
                show Steps p.tables e below (s₁.setTop (mkF m 48 #[.val (.int p0)] [(.int p0)])) _
                refine XS.bipush X0.here hx rfl (hb hby d1_48) ?_
                exact kt
              refine Done.of ?_ K13
              by_cases hc50_14 : p0 = (6 : Int32)
              · have K : ∀ target, Steps p.tables e below (s₁.setTop (mkF m 53 #[.val (.int p0)] [])) target → Steps p.tables e below (s₁.setTop (mkF m 50 #[.val (.int p0)] [(.int (6 : Int32)), (.int p0)])) target := by
                  intro target kt
                  refine XS.icmpNo X0.here hx rfl (hb hby d1_50) rfl (teq hc50_14).2 ?_
                  exact kt
                refine Done.of ?_ K
                obtain ⟨fs, hr, hrun, hended, hW, hsame⟩ := X0.leave (v := some (.int (3 : Int32))) (fun h => by rw [Bd.returns] at h; cases h)
                refine ⟨_, _, ?_, hrun, hended, _, _, rfl, ?_, ⟨_, rfl⟩, hW, hsame.mono (by decide) (by decide)⟩
                · show Steps p.tables e below (s₁.setTop (mkF m 53 #[.val (.int p0)] [])) _
                  refine XS.iconst X0.here hx rfl (hb hby d1_53) ?_
                  show Steps p.tables e below (s₁.setTop (mkF m 54 #[.val (.int p0)] [(.int (3 : Int32))])) _
                  exact retI X0 hx Bd.returns (hb hby d1_54) hr
                · show Q1 Z p0  h0 n0 _ s₁.heap _
                  rw [e0]
                  have c0 := own_isnt hc1_2 (n := 0) (by decide)
                  have c1 := own_isnt hc9_4 (n := 1) (by decide)
                  have c2 := own_isnt hc17_6 (n := 2) (by decide)
                  have c3 := own_isnt hc25_8 (n := 3) (by decide)
                  have c4 := own_isnt hc33_10 (n := 4) (by decide)
                  have c5 := own_isnt hc41_12 (n := 5) (by decide)
                  have c6 := own_is hc50_14 (n := 6) (by decide)
                  have cn : p0.toInt = ((6 : Nat) : Int) := by omega
                  refine ⟨6, ?_, N0, rfl, by decide, cn⟩
                  rfl
              · have K : ∀ target, Steps p.tables e below (s₁.setTop (mkF m 55 #[.val (.int p0)] [])) target → Steps p.tables e below (s₁.setTop (mkF m 50 #[.val (.int p0)] [(.int (6 : Int32)), (.int p0)])) target := by
                  intro target kt
                  refine XS.icmpYes X0.here hx rfl (pc0 := 50) (pc' := 55) rfl (hb hby d1_50) rfl (feq hc50_14).2 (by decide) (by decide) ?_
                  exact kt
                refine Done.of ?_ K
                have K15 : ∀ target, Steps p.tables e below (s₁.setTop (mkF m 58 #[.val (.int p0)] [(.int (7 : Int32)), (.int p0)])) target → Steps p.tables e below (s₁.setTop (mkF m 55 #[.val (.int p0)] [])) target := by
                  intro target kt
                  show Steps p.tables e below (s₁.setTop (mkF m 55 #[.val (.int p0)] [])) _
                  refine XS.iloadN X0.here hx rfl (hb hby d1_55) rfl ?_
                  show Steps p.tables e below (s₁.setTop (mkF m 56 #[.val (.int p0)] [(.int p0)])) _
                  refine XS.bipush X0.here hx rfl (hb hby d1_56) ?_
                  exact kt
                refine Done.of ?_ K15
                by_cases hc58_16 : p0 = (7 : Int32)
                · have K : ∀ target, Steps p.tables e below (s₁.setTop (mkF m 61 #[.val (.int p0)] [])) target → Steps p.tables e below (s₁.setTop (mkF m 58 #[.val (.int p0)] [(.int (7 : Int32)), (.int p0)])) target := by
                    intro target kt
                    refine XS.icmpNo X0.here hx rfl (hb hby d1_58) rfl (teq hc58_16).2 ?_
                    exact kt
                  refine Done.of ?_ K
                  obtain ⟨fs, hr, hrun, hended, hW, hsame⟩ := X0.leave (v := some (.int (6 : Int32))) (fun h => by rw [Bd.returns] at h; cases h)
                  refine ⟨_, _, ?_, hrun, hended, _, _, rfl, ?_, ⟨_, rfl⟩, hW, hsame.mono (by decide) (by decide)⟩
                  · show Steps p.tables e below (s₁.setTop (mkF m 61 #[.val (.int p0)] [])) _
                    refine XS.bipush X0.here hx rfl (hb hby d1_61) ?_
                    show Steps p.tables e below (s₁.setTop (mkF m 63 #[.val (.int p0)] [(.int (6 : Int32))])) _
                    exact retI X0 hx Bd.returns (hb hby d1_63) hr
                  · show Q1 Z p0  h0 n0 _ s₁.heap _
                    rw [e0]
                    have c0 := own_isnt hc1_2 (n := 0) (by decide)
                    have c1 := own_isnt hc9_4 (n := 1) (by decide)
                    have c2 := own_isnt hc17_6 (n := 2) (by decide)
                    have c3 := own_isnt hc25_8 (n := 3) (by decide)
                    have c4 := own_isnt hc33_10 (n := 4) (by decide)
                    have c5 := own_isnt hc41_12 (n := 5) (by decide)
                    have c6 := own_isnt hc50_14 (n := 6) (by decide)
                    have c7 := own_is hc58_16 (n := 7) (by decide)
                    have cn : p0.toInt = ((7 : Nat) : Int) := by omega
                    refine ⟨7, ?_, N0, rfl, by decide, cn⟩
                    rfl
                · have K : ∀ target, Steps p.tables e below (s₁.setTop (mkF m 64 #[.val (.int p0)] [])) target → Steps p.tables e below (s₁.setTop (mkF m 58 #[.val (.int p0)] [(.int (7 : Int32)), (.int p0)])) target := by
                    intro target kt
                    refine XS.icmpYes X0.here hx rfl (pc0 := 58) (pc' := 64) rfl (hb hby d1_58) rfl (feq hc58_16).2 (by decide) (by decide) ?_
                    exact kt
                  refine Done.of ?_ K
                  have K17 : ∀ target, Steps p.tables e below (s₁.setTop (mkF m 67 #[.val (.int p0)] [(.int (8 : Int32)), (.int p0)])) target → Steps p.tables e below (s₁.setTop (mkF m 64 #[.val (.int p0)] [])) target := by
                    intro target kt
                    show Steps p.tables e below (s₁.setTop (mkF m 64 #[.val (.int p0)] [])) _
                    refine XS.iloadN X0.here hx rfl (hb hby d1_64) rfl ?_
                    show Steps p.tables e below (s₁.setTop (mkF m 65 #[.val (.int p0)] [(.int p0)])) _
                    refine XS.bipush X0.here hx rfl (hb hby d1_65) ?_
                    exact kt
                  refine Done.of ?_ K17
                  by_cases hc67_18 : p0 = (8 : Int32)
                  · have K : ∀ target, Steps p.tables e below (s₁.setTop (mkF m 70 #[.val (.int p0)] [])) target → Steps p.tables e below (s₁.setTop (mkF m 67 #[.val (.int p0)] [(.int (8 : Int32)), (.int p0)])) target := by
                      intro target kt
                      refine XS.icmpNo X0.here hx rfl (hb hby d1_67) rfl (teq hc67_18).2 ?_
                      exact kt
                    refine Done.of ?_ K
                    obtain ⟨fs, hr, hrun, hended, hW, hsame⟩ := X0.leave (v := some (.int (4 : Int32))) (fun h => by rw [Bd.returns] at h; cases h)
                    refine ⟨_, _, ?_, hrun, hended, _, _, rfl, ?_, ⟨_, rfl⟩, hW, hsame.mono (by decide) (by decide)⟩
                    · show Steps p.tables e below (s₁.setTop (mkF m 70 #[.val (.int p0)] [])) _
                      refine XS.iconst X0.here hx rfl (hb hby d1_70) ?_
                      show Steps p.tables e below (s₁.setTop (mkF m 71 #[.val (.int p0)] [(.int (4 : Int32))])) _
                      exact retI X0 hx Bd.returns (hb hby d1_71) hr
                    · show Q1 Z p0  h0 n0 _ s₁.heap _
                      rw [e0]
                      have c0 := own_isnt hc1_2 (n := 0) (by decide)
                      have c1 := own_isnt hc9_4 (n := 1) (by decide)
                      have c2 := own_isnt hc17_6 (n := 2) (by decide)
                      have c3 := own_isnt hc25_8 (n := 3) (by decide)
                      have c4 := own_isnt hc33_10 (n := 4) (by decide)
                      have c5 := own_isnt hc41_12 (n := 5) (by decide)
                      have c6 := own_isnt hc50_14 (n := 6) (by decide)
                      have c7 := own_isnt hc58_16 (n := 7) (by decide)
                      have c8 := own_is hc67_18 (n := 8) (by decide)
                      have cn : p0.toInt = ((8 : Nat) : Int) := by omega
                      refine ⟨8, ?_, N0, rfl, by decide, cn⟩
                      rfl
                  · have K : ∀ target, Steps p.tables e below (s₁.setTop (mkF m 72 #[.val (.int p0)] [])) target → Steps p.tables e below (s₁.setTop (mkF m 67 #[.val (.int p0)] [(.int (8 : Int32)), (.int p0)])) target := by
                      intro target kt
                      refine XS.icmpYes X0.here hx rfl (pc0 := 67) (pc' := 72) rfl (hb hby d1_67) rfl (feq hc67_18).2 (by decide) (by decide) ?_
                      exact kt
                    refine Done.of ?_ K
                    have K19 : ∀ target, Steps p.tables e below (s₁.setTop (mkF m 75 #[.val (.int p0)] [(.int (9 : Int32)), (.int p0)])) target → Steps p.tables e below (s₁.setTop (mkF m 72 #[.val (.int p0)] [])) target := by
                      intro target kt
                      show Steps p.tables e below (s₁.setTop (mkF m 72 #[.val (.int p0)] [])) _
                      refine XS.iloadN X0.here hx rfl (hb hby d1_72) rfl ?_
                      show Steps p.tables e below (s₁.setTop (mkF m 73 #[.val (.int p0)] [(.int p0)])) _
                      refine XS.bipush X0.here hx rfl (hb hby d1_73) ?_
                      exact kt
                    refine Done.of ?_ K19
                    by_cases hc75_20 : p0 = (9 : Int32)
                    · have K : ∀ target, Steps p.tables e below (s₁.setTop (mkF m 78 #[.val (.int p0)] [])) target → Steps p.tables e below (s₁.setTop (mkF m 75 #[.val (.int p0)] [(.int (9 : Int32)), (.int p0)])) target := by
                        intro target kt
                        refine XS.icmpNo X0.here hx rfl (hb hby d1_75) rfl (teq hc75_20).2 ?_
                        exact kt
                      refine Done.of ?_ K
                      obtain ⟨fs, hr, hrun, hended, hW, hsame⟩ := X0.leave (v := some (.int (4 : Int32))) (fun h => by rw [Bd.returns] at h; cases h)
                      refine ⟨_, _, ?_, hrun, hended, _, _, rfl, ?_, ⟨_, rfl⟩, hW, hsame.mono (by decide) (by decide)⟩
                      · show Steps p.tables e below (s₁.setTop (mkF m 78 #[.val (.int p0)] [])) _
                        refine XS.iconst X0.here hx rfl (hb hby d1_78) ?_
                        show Steps p.tables e below (s₁.setTop (mkF m 79 #[.val (.int p0)] [(.int (4 : Int32))])) _
                        exact retI X0 hx Bd.returns (hb hby d1_79) hr
                      · show Q1 Z p0  h0 n0 _ s₁.heap _
                        rw [e0]
                        have c0 := own_isnt hc1_2 (n := 0) (by decide)
                        have c1 := own_isnt hc9_4 (n := 1) (by decide)
                        have c2 := own_isnt hc17_6 (n := 2) (by decide)
                        have c3 := own_isnt hc25_8 (n := 3) (by decide)
                        have c4 := own_isnt hc33_10 (n := 4) (by decide)
                        have c5 := own_isnt hc41_12 (n := 5) (by decide)
                        have c6 := own_isnt hc50_14 (n := 6) (by decide)
                        have c7 := own_isnt hc58_16 (n := 7) (by decide)
                        have c8 := own_isnt hc67_18 (n := 8) (by decide)
                        have c9 := own_is hc75_20 (n := 9) (by decide)
                        have cn : p0.toInt = ((9 : Nat) : Int) := by omega
                        refine ⟨9, ?_, N0, rfl, by decide, cn⟩
                        rfl
                    · have K : ∀ target, Steps p.tables e below (s₁.setTop (mkF m 80 #[.val (.int p0)] [])) target → Steps p.tables e below (s₁.setTop (mkF m 75 #[.val (.int p0)] [(.int (9 : Int32)), (.int p0)])) target := by
                        intro target kt
                        refine XS.icmpYes X0.here hx rfl (pc0 := 75) (pc' := 80) rfl (hb hby d1_75) rfl (feq hc75_20).2 (by decide) (by decide) ?_
                        exact kt
                      refine Done.of ?_ K
                      have K21 : ∀ target, Steps p.tables e below (s₁.setTop (mkF m 83 #[.val (.int p0)] [(.int (10 : Int32)), (.int p0)])) target → Steps p.tables e below (s₁.setTop (mkF m 80 #[.val (.int p0)] [])) target := by
                        intro target kt
                        show Steps p.tables e below (s₁.setTop (mkF m 80 #[.val (.int p0)] [])) _
                        refine XS.iloadN X0.here hx rfl (hb hby d1_80) rfl ?_
                        show Steps p.tables e below (s₁.setTop (mkF m 81 #[.val (.int p0)] [(.int p0)])) _
                        refine XS.bipush X0.here hx rfl (hb hby d1_81) ?_
                        exact kt
                      refine Done.of ?_ K21
                      by_cases hc83_22 : p0 = (10 : Int32)
                      · have K : ∀ target, Steps p.tables e below (s₁.setTop (mkF m 86 #[.val (.int p0)] [])) target → Steps p.tables e below (s₁.setTop (mkF m 83 #[.val (.int p0)] [(.int (10 : Int32)), (.int p0)])) target := by
                          intro target kt
                          refine XS.icmpNo X0.here hx rfl (hb hby d1_83) rfl (teq hc83_22).2 ?_
                          exact kt
                        refine Done.of ?_ K
                        obtain ⟨fs, hr, hrun, hended, hW, hsame⟩ := X0.leave (v := some (.int (4 : Int32))) (fun h => by rw [Bd.returns] at h; cases h)
                        refine ⟨_, _, ?_, hrun, hended, _, _, rfl, ?_, ⟨_, rfl⟩, hW, hsame.mono (by decide) (by decide)⟩
                        · show Steps p.tables e below (s₁.setTop (mkF m 86 #[.val (.int p0)] [])) _
                          refine XS.iconst X0.here hx rfl (hb hby d1_86) ?_
                          show Steps p.tables e below (s₁.setTop (mkF m 87 #[.val (.int p0)] [(.int (4 : Int32))])) _
                          exact retI X0 hx Bd.returns (hb hby d1_87) hr
                        · show Q1 Z p0  h0 n0 _ s₁.heap _
                          rw [e0]
                          have c0 := own_isnt hc1_2 (n := 0) (by decide)
                          have c1 := own_isnt hc9_4 (n := 1) (by decide)
                          have c2 := own_isnt hc17_6 (n := 2) (by decide)
                          have c3 := own_isnt hc25_8 (n := 3) (by decide)
                          have c4 := own_isnt hc33_10 (n := 4) (by decide)
                          have c5 := own_isnt hc41_12 (n := 5) (by decide)
                          have c6 := own_isnt hc50_14 (n := 6) (by decide)
                          have c7 := own_isnt hc58_16 (n := 7) (by decide)
                          have c8 := own_isnt hc67_18 (n := 8) (by decide)
                          have c9 := own_isnt hc75_20 (n := 9) (by decide)
                          have c10 := own_is hc83_22 (n := 10) (by decide)
                          have cn : p0.toInt = ((10 : Nat) : Int) := by omega
                          refine ⟨10, ?_, N0, rfl, by decide, cn⟩
                          rfl
                      · have K : ∀ target, Steps p.tables e below (s₁.setTop (mkF m 88 #[.val (.int p0)] [])) target → Steps p.tables e below (s₁.setTop (mkF m 83 #[.val (.int p0)] [(.int (10 : Int32)), (.int p0)])) target := by
                          intro target kt
                          refine XS.icmpYes X0.here hx rfl (pc0 := 83) (pc' := 88) rfl (hb hby d1_83) rfl (feq hc83_22).2 (by decide) (by decide) ?_
                          exact kt
                        refine Done.of ?_ K
                        have K23 : ∀ target, Steps p.tables e below (s₁.setTop (mkF m 91 #[.val (.int p0)] [(.int (11 : Int32)), (.int p0)])) target → Steps p.tables e below (s₁.setTop (mkF m 88 #[.val (.int p0)] [])) target := by
                          intro target kt
                          show Steps p.tables e below (s₁.setTop (mkF m 88 #[.val (.int p0)] [])) _
                          refine XS.iloadN X0.here hx rfl (hb hby d1_88) rfl ?_
                          show Steps p.tables e below (s₁.setTop (mkF m 89 #[.val (.int p0)] [(.int p0)])) _
                          refine XS.bipush X0.here hx rfl (hb hby d1_89) ?_
                          exact kt
                        refine Done.of ?_ K23
                        by_cases hc91_24 : p0 = (11 : Int32)
                        · have K : ∀ target, Steps p.tables e below (s₁.setTop (mkF m 94 #[.val (.int p0)] [])) target → Steps p.tables e below (s₁.setTop (mkF m 91 #[.val (.int p0)] [(.int (11 : Int32)), (.int p0)])) target := by
                            intro target kt
                            refine XS.icmpNo X0.here hx rfl (hb hby d1_91) rfl (teq hc91_24).2 ?_
                            exact kt
                          refine Done.of ?_ K
                          obtain ⟨fs, hr, hrun, hended, hW, hsame⟩ := X0.leave (v := some (.int (3 : Int32))) (fun h => by rw [Bd.returns] at h; cases h)
                          refine ⟨_, _, ?_, hrun, hended, _, _, rfl, ?_, ⟨_, rfl⟩, hW, hsame.mono (by decide) (by decide)⟩
                          · show Steps p.tables e below (s₁.setTop (mkF m 94 #[.val (.int p0)] [])) _
                            refine XS.iconst X0.here hx rfl (hb hby d1_94) ?_
                            show Steps p.tables e below (s₁.setTop (mkF m 95 #[.val (.int p0)] [(.int (3 : Int32))])) _
                            exact retI X0 hx Bd.returns (hb hby d1_95) hr
                          · show Q1 Z p0  h0 n0 _ s₁.heap _
                            rw [e0]
                            have c0 := own_isnt hc1_2 (n := 0) (by decide)
                            have c1 := own_isnt hc9_4 (n := 1) (by decide)
                            have c2 := own_isnt hc17_6 (n := 2) (by decide)
                            have c3 := own_isnt hc25_8 (n := 3) (by decide)
                            have c4 := own_isnt hc33_10 (n := 4) (by decide)
                            have c5 := own_isnt hc41_12 (n := 5) (by decide)
                            have c6 := own_isnt hc50_14 (n := 6) (by decide)
                            have c7 := own_isnt hc58_16 (n := 7) (by decide)
                            have c8 := own_isnt hc67_18 (n := 8) (by decide)
                            have c9 := own_isnt hc75_20 (n := 9) (by decide)
                            have c10 := own_isnt hc83_22 (n := 10) (by decide)
                            have c11 := own_is hc91_24 (n := 11) (by decide)
                            have cn : p0.toInt = ((11 : Nat) : Int) := by omega
                            refine ⟨11, ?_, N0, rfl, by decide, cn⟩
                            rfl
                        · have K : ∀ target, Steps p.tables e below (s₁.setTop (mkF m 96 #[.val (.int p0)] [])) target → Steps p.tables e below (s₁.setTop (mkF m 91 #[.val (.int p0)] [(.int (11 : Int32)), (.int p0)])) target := by
                            intro target kt
                            refine XS.icmpYes X0.here hx rfl (pc0 := 91) (pc' := 96) rfl (hb hby d1_91) rfl (feq hc91_24).2 (by decide) (by decide) ?_
                            exact kt
                          refine Done.of ?_ K
                          obtain ⟨fs, hr, hrun, hended, hW, hsame⟩ := X0.leave (v := some (.int (5 : Int32))) (fun h => by rw [Bd.returns] at h; cases h)
                          refine ⟨_, _, ?_, hrun, hended, _, _, rfl, ?_, ⟨_, rfl⟩, hW, hsame.mono (by decide) (by decide)⟩
                          · show Steps p.tables e below (s₁.setTop (mkF m 96 #[.val (.int p0)] [])) _
                            refine XS.iconst X0.here hx rfl (hb hby d1_96) ?_
                            show Steps p.tables e below (s₁.setTop (mkF m 97 #[.val (.int p0)] [(.int (5 : Int32))])) _
                            exact retI X0 hx Bd.returns (hb hby d1_97) hr
                          · show Q1 Z p0  h0 n0 _ s₁.heap _
                            rw [e0]
                            have c0 := own_isnt hc1_2 (n := 0) (by decide)
                            have c1 := own_isnt hc9_4 (n := 1) (by decide)
                            have c2 := own_isnt hc17_6 (n := 2) (by decide)
                            have c3 := own_isnt hc25_8 (n := 3) (by decide)
                            have c4 := own_isnt hc33_10 (n := 4) (by decide)
                            have c5 := own_isnt hc41_12 (n := 5) (by decide)
                            have c6 := own_isnt hc50_14 (n := 6) (by decide)
                            have c7 := own_isnt hc58_16 (n := 7) (by decide)
                            have c8 := own_isnt hc67_18 (n := 8) (by decide)
                            have c9 := own_isnt hc75_20 (n := 9) (by decide)
                            have c10 := own_isnt hc83_22 (n := 10) (by decide)
                            have c11 := own_isnt hc91_24 (n := 11) (by decide)
                            have cn : p0.toInt = ((12 : Nat) : Int) := by omega
                            refine ⟨12, ?_, N0, rfl, by decide, cn⟩
                            rfl
theorem d2_0 : decode method_2_code 0 = .ok (.iload_n 0, 1) := by decide +kernel
theorem d2_1 : decode method_2_code 1 = .ok (.ifCond .ne 7, 3) := by decide +kernel
theorem d2_4 : decode method_2_code 4 = .ok (.getstatic 7, 3) := by decide +kernel
theorem d2_7 : decode method_2_code 7 = .ok (.areturn, 1) := by decide +kernel
theorem d2_8 : decode method_2_code 8 = .ok (.iload_n 0, 1) := by decide +kernel
theorem d2_9 : decode method_2_code 9 = .ok (.iconst 1, 1) := by decide +kernel
theorem d2_10 : decode method_2_code 10 = .ok (.if_icmp .ne 7, 3) := by decide +kernel
theorem d2_13 : decode method_2_code 13 = .ok (.getstatic 13, 3) := by decide +kernel
theorem d2_16 : decode method_2_code 16 = .ok (.areturn, 1) := by decide +kernel
theorem d2_17 : decode method_2_code 17 = .ok (.iload_n 0, 1) := by decide +kernel
theorem d2_18 : decode method_2_code 18 = .ok (.iconst 2, 1) := by decide +kernel
theorem d2_19 : decode method_2_code 19 = .ok (.if_icmp .ne 7, 3) := by decide +kernel
theorem d2_22 : decode method_2_code 22 = .ok (.getstatic 16, 3) := by decide +kernel
theorem d2_25 : decode method_2_code 25 = .ok (.areturn, 1) := by decide +kernel
theorem d2_26 : decode method_2_code 26 = .ok (.iload_n 0, 1) := by decide +kernel
theorem d2_27 : decode method_2_code 27 = .ok (.iconst 3, 1) := by decide +kernel
theorem d2_28 : decode method_2_code 28 = .ok (.if_icmp .ne 7, 3) := by decide +kernel
theorem d2_31 : decode method_2_code 31 = .ok (.getstatic 19, 3) := by decide +kernel
theorem d2_34 : decode method_2_code 34 = .ok (.areturn, 1) := by decide +kernel
theorem d2_35 : decode method_2_code 35 = .ok (.iload_n 0, 1) := by decide +kernel
theorem d2_36 : decode method_2_code 36 = .ok (.iconst 4, 1) := by decide +kernel
theorem d2_37 : decode method_2_code 37 = .ok (.if_icmp .ne 7, 3) := by decide +kernel
theorem d2_40 : decode method_2_code 40 = .ok (.getstatic 22, 3) := by decide +kernel
theorem d2_43 : decode method_2_code 43 = .ok (.areturn, 1) := by decide +kernel
theorem d2_44 : decode method_2_code 44 = .ok (.iload_n 0, 1) := by decide +kernel
theorem d2_45 : decode method_2_code 45 = .ok (.iconst 5, 1) := by decide +kernel
theorem d2_46 : decode method_2_code 46 = .ok (.if_icmp .ne 7, 3) := by decide +kernel
theorem d2_49 : decode method_2_code 49 = .ok (.getstatic 25, 3) := by decide +kernel
theorem d2_52 : decode method_2_code 52 = .ok (.areturn, 1) := by decide +kernel
theorem d2_53 : decode method_2_code 53 = .ok (.iload_n 0, 1) := by decide +kernel
theorem d2_54 : decode method_2_code 54 = .ok (.bipush 6, 2) := by decide +kernel
theorem d2_56 : decode method_2_code 56 = .ok (.if_icmp .ne 7, 3) := by decide +kernel
theorem d2_59 : decode method_2_code 59 = .ok (.getstatic 28, 3) := by decide +kernel
theorem d2_62 : decode method_2_code 62 = .ok (.areturn, 1) := by decide +kernel
theorem d2_63 : decode method_2_code 63 = .ok (.iload_n 0, 1) := by decide +kernel
theorem d2_64 : decode method_2_code 64 = .ok (.bipush 7, 2) := by decide +kernel
theorem d2_66 : decode method_2_code 66 = .ok (.if_icmp .ne 7, 3) := by decide +kernel
theorem d2_69 : decode method_2_code 69 = .ok (.getstatic 31, 3) := by decide +kernel
theorem d2_72 : decode method_2_code 72 = .ok (.areturn, 1) := by decide +kernel
theorem d2_73 : decode method_2_code 73 = .ok (.iload_n 0, 1) := by decide +kernel
theorem d2_74 : decode method_2_code 74 = .ok (.bipush 8, 2) := by decide +kernel
theorem d2_76 : decode method_2_code 76 = .ok (.if_icmp .ne 7, 3) := by decide +kernel
theorem d2_79 : decode method_2_code 79 = .ok (.getstatic 34, 3) := by decide +kernel
theorem d2_82 : decode method_2_code 82 = .ok (.areturn, 1) := by decide +kernel
theorem d2_83 : decode method_2_code 83 = .ok (.iload_n 0, 1) := by decide +kernel
theorem d2_84 : decode method_2_code 84 = .ok (.bipush 9, 2) := by decide +kernel
theorem d2_86 : decode method_2_code 86 = .ok (.if_icmp .ne 7, 3) := by decide +kernel
theorem d2_89 : decode method_2_code 89 = .ok (.getstatic 37, 3) := by decide +kernel
theorem d2_92 : decode method_2_code 92 = .ok (.areturn, 1) := by decide +kernel
theorem d2_93 : decode method_2_code 93 = .ok (.iload_n 0, 1) := by decide +kernel
theorem d2_94 : decode method_2_code 94 = .ok (.bipush 10, 2) := by decide +kernel
theorem d2_96 : decode method_2_code 96 = .ok (.if_icmp .ne 7, 3) := by decide +kernel
theorem d2_99 : decode method_2_code 99 = .ok (.getstatic 40, 3) := by decide +kernel
theorem d2_102 : decode method_2_code 102 = .ok (.areturn, 1) := by decide +kernel
theorem d2_103 : decode method_2_code 103 = .ok (.iload_n 0, 1) := by decide +kernel
theorem d2_104 : decode method_2_code 104 = .ok (.bipush 11, 2) := by decide +kernel
theorem d2_106 : decode method_2_code 106 = .ok (.if_icmp .ne 7, 3) := by decide +kernel
theorem d2_109 : decode method_2_code 109 = .ok (.getstatic 43, 3) := by decide +kernel
theorem d2_112 : decode method_2_code 112 = .ok (.areturn, 1) := by decide +kernel
theorem d2_113 : decode method_2_code 113 = .ok (.getstatic 46, 3) := by decide +kernel
theorem d2_116 : decode method_2_code 116 = .ok (.areturn, 1) := by decide +kernel
theorem pn_2 : plainName "com/example/brokerwire/brokerwire/ApiKeyIsFlexiblePinLaw" = true := by first | (simp [plainName, overriddenIn]; done) | decide +kernel
theorem ef_2 (m : MethodId) (p0 : Int32)  : entryFrame m #[(.int p0)] 1 = mkF m 0 #[.val (.int p0)] [] := by first | (simp [entryFrame, mkF, argsToLocals, Value.category]; done) | rfl
def Q2 (Z : State) (p0 : Int32) (A : Nat → Addr) (h0 : Heap) (n0 : Nat) (v : Option Value) (h : Heap) (L : List Loc) : Prop := ∃ n : Nat, v = some (.ref (A n)) ∧ Fr n0 L ∧ h = h0 ∧ n < 13 ∧ p0.toInt = (n : Int)
set_option maxRecDepth 65536 in
set_option maxHeartbeats 40000000 in
theorem rm2 (l : Launch) (Z : State) (a0 : Array Value) (hw : ∀ d ∈ tables_1, d.before a0 Z = true) (ws : List Jvm.Cond) (p0 : Int32) (A : Nat → Addr) (h0 : Heap) (n0 : Nat) (Z0 : n0 ≤ h0.size) (hlo : 0 ≤ p0.toInt) (hhi : p0.toInt < 13) (S0 : Sta Z h0 "com/example/brokerwire/brokerwire/ApiKey" "PRODUCE" "Lcom/example/brokerwire/brokerwire/ApiKey;" (.ref (A 0))) (S1 : Sta Z h0 "com/example/brokerwire/brokerwire/ApiKey" "FETCH" "Lcom/example/brokerwire/brokerwire/ApiKey;" (.ref (A 1))) (S2 : Sta Z h0 "com/example/brokerwire/brokerwire/ApiKey" "LIST_OFFSETS" "Lcom/example/brokerwire/brokerwire/ApiKey;" (.ref (A 2))) (S3 : Sta Z h0 "com/example/brokerwire/brokerwire/ApiKey" "METADATA" "Lcom/example/brokerwire/brokerwire/ApiKey;" (.ref (A 3))) (S4 : Sta Z h0 "com/example/brokerwire/brokerwire/ApiKey" "OFFSET_COMMIT" "Lcom/example/brokerwire/brokerwire/ApiKey;" (.ref (A 4))) (S5 : Sta Z h0 "com/example/brokerwire/brokerwire/ApiKey" "OFFSET_FETCH" "Lcom/example/brokerwire/brokerwire/ApiKey;" (.ref (A 5))) (S6 : Sta Z h0 "com/example/brokerwire/brokerwire/ApiKey" "FIND_COORDINATOR" "Lcom/example/brokerwire/brokerwire/ApiKey;" (.ref (A 6))) (S7 : Sta Z h0 "com/example/brokerwire/brokerwire/ApiKey" "JOIN_GROUP" "Lcom/example/brokerwire/brokerwire/ApiKey;" (.ref (A 7))) (S8 : Sta Z h0 "com/example/brokerwire/brokerwire/ApiKey" "HEARTBEAT" "Lcom/example/brokerwire/brokerwire/ApiKey;" (.ref (A 8))) (S9 : Sta Z h0 "com/example/brokerwire/brokerwire/ApiKey" "LEAVE_GROUP" "Lcom/example/brokerwire/brokerwire/ApiKey;" (.ref (A 9))) (S10 : Sta Z h0 "com/example/brokerwire/brokerwire/ApiKey" "SYNC_GROUP" "Lcom/example/brokerwire/brokerwire/ApiKey;" (.ref (A 10))) (S11 : Sta Z h0 "com/example/brokerwire/brokerwire/ApiKey" "API_VERSIONS" "Lcom/example/brokerwire/brokerwire/ApiKey;" (.ref (A 11))) (S12 : Sta Z h0 "com/example/brokerwire/brokerwire/ApiKey" "CREATE_TOPICS" "Lcom/example/brokerwire/brokerwire/ApiKey;" (.ref (A 12))) :
    MetFree l (⟨"com/example/brokerwire/brokerwire/ApiKeyIsFlexiblePinLaw", "api", "(I)Lcom/example/brokerwire/brokerwire/ApiKey;"⟩ : MethodName) (head1 (Jvm.Cond.code (⟨"com/example/brokerwire/brokerwire/ApiKeyIsFlexiblePinLaw", "api", "(I)Lcom/example/brokerwire/brokerwire/ApiKey;"⟩ : MethodName) method_2_code 1 (some (.object "com/example/brokerwire/brokerwire/ApiKey")) :: ws) ({ frames := 0, cells := 0, slots := 0, locals := 0 } : Room)) (fun a U => a = #[(.int p0)] ∧ Z.Warmed39 U.vm ∧ U.heap = h0) (fun _ _ _ _ _ => True) (fun _ U o U' => ∃ v L, o = .returned v ∧ Q2 Z p0 A h0 n0 v U'.heap L ∧ FrameEnd U o U' L ({ frames := 0, cells := 0, slots := 0, locals := 0 } : Room).cells ({ frames := 0, cells := 0, slots := 0, locals := 0 } : Room).slots) := by
  refine MetFree.of_bodySF (plainFor_of_name pn_2) hisR ?_
  intro p e s m args below meth c s₁ Bd hml0 hP hK
  obtain ⟨rfl, hZ, hh⟩ := hP
  have hx := Bd.exec
  have hby := Bd.bytes
  have hml : c.maxLocals = 1 := hml0
  have hown : s.vm.findClass "com/example/brokerwire/brokerwire/ApiKeyIsFlexiblePinLaw" = some m.cls := findClass_of_methodNamed Bd.named
  have hnm := (name_of_methodNamed Bd.named Bd.method).1
  have X0 : Stand p l e ({ frames := 0, cells := 0, slots := 0, locals := 0 } : Room) s m #[(.int p0)] below meth c s₁ [] 0 0 := Stand.of_body Bd
  have e0 : s₁.heap = h0 := by rw [← hh, Bd.state]; rfl
  have N0 := Fr.nil n0
  have pre0 : ∀ t, Steps p.tables e below (s₁.setTop (mkF m 0 #[.val (.int p0)] [])) t → Steps p.tables e below (s₁.setTop (entryFrame m #[(.int p0)] 1)) t := fun t k => castTop (ef_2 m p0) k
  show Done p e below _ _
  refine Done.of ?_ pre0
  have K1 : ∀ target, Steps p.tables e below (s₁.setTop (mkF m 1 #[.val (.int p0)] [(.int p0)])) target → Steps p.tables e below (s₁.setTop (mkF m 0 #[.val (.int p0)] [])) target := by
    intro target kt
    show Steps p.tables e below (s₁.setTop (mkF m 0 #[.val (.int p0)] [])) _
    refine XS.iloadN X0.here hx rfl (hb hby d2_0) rfl ?_
    exact kt
  refine Done.of ?_ K1
  by_cases hc1_2 : p0 = (0 : Int32)
  · have K : ∀ target, Steps p.tables e below (s₁.setTop (mkF m 4 #[.val (.int p0)] [])) target → Steps p.tables e below (s₁.setTop (mkF m 1 #[.val (.int p0)] [(.int p0)])) target := by
      intro target kt
      refine XS.ifNo X0.here hx rfl (hb hby d2_1) rfl ((if0 _ _).trans (teq hc1_2).2) ?_
      exact kt
    refine Done.of ?_ K
    obtain ⟨T3, X3, e3, st3⟩ := getS2 X0 hx hZ hown (host := "") (Or.inl (hw _ (List.mem_of_getElem? (i := 8) rfl))) Via.refl e0 S0 (g := (mkF m 4 #[.val (.int p0)] [])) rfl (hb hby d2_4)
    obtain ⟨fs, hr, hrun, hended, hW, hsame⟩ := X3.leave (v := some (.ref (A 0))) (fun h => by rw [Bd.returns] at h; cases h)
    refine ⟨_, _, ?_, hrun, hended, _, _, rfl, ?_, ⟨_, rfl⟩, hW, hsame.mono (by decide) (by decide)⟩
    · show Steps p.tables e below (s₁.setTop (mkF m 4 #[.val (.int p0)] [])) _
      refine st3 _ ?_
      show Steps p.tables e below (T3.setTop (mkF m 7 #[.val (.int p0)] [(.ref (A 0))])) _
      jvm_step X3.here [X3.here.top, hx, (hb hby d2_7), X3.method', Bd.returns, Value.isRef, FieldType.isReference]
      first | (intro acts; rw [hr _ acts rfl rfl rfl]) | rw [hr _ _ rfl rfl rfl]
      exact Steps.refl _
    · show Q2 Z p0 A h0 n0 _ T3.heap _
      rw [e3]
      have c0 := own_is hc1_2 (n := 0) (by decide)
      have cn : p0.toInt = ((0 : Nat) : Int) := by omega
      refine ⟨0, ?_, N0, rfl, by decide, cn⟩
      rfl
  · have K : ∀ target, Steps p.tables e below (s₁.setTop (mkF m 8 #[.val (.int p0)] [])) target → Steps p.tables e below (s₁.setTop (mkF m 1 #[.val (.int p0)] [(.int p0)])) target := by
      intro target kt
      refine XS.ifYes X0.here hx rfl (pc0 := 1) (pc' := 8) rfl (hb hby d2_1) rfl ((if0 _ _).trans (feq hc1_2).2) (by decide) (by decide) ?_
      exact kt
    refine Done.of ?_ K
    have K4 : ∀ target, Steps p.tables e below (s₁.setTop (mkF m 10 #[.val (.int p0)] [(.int (1 : Int32)), (.int p0)])) target → Steps p.tables e below (s₁.setTop (mkF m 8 #[.val (.int p0)] [])) target := by
      intro target kt
      show Steps p.tables e below (s₁.setTop (mkF m 8 #[.val (.int p0)] [])) _
      refine XS.iloadN X0.here hx rfl (hb hby d2_8) rfl ?_
      show Steps p.tables e below (s₁.setTop (mkF m 9 #[.val (.int p0)] [(.int p0)])) _
      refine XS.iconst X0.here hx rfl (hb hby d2_9) ?_
      exact kt
    refine Done.of ?_ K4
    by_cases hc10_5 : p0 = (1 : Int32)
    · have K : ∀ target, Steps p.tables e below (s₁.setTop (mkF m 13 #[.val (.int p0)] [])) target → Steps p.tables e below (s₁.setTop (mkF m 10 #[.val (.int p0)] [(.int (1 : Int32)), (.int p0)])) target := by
        intro target kt
        refine XS.icmpNo X0.here hx rfl (hb hby d2_10) rfl (teq hc10_5).2 ?_
        exact kt
      refine Done.of ?_ K
      obtain ⟨T6, X6, e6, st6⟩ := getS2 X0 hx hZ hown (host := "") (Or.inl (hw _ (List.mem_of_getElem? (i := 18) rfl))) Via.refl e0 S1 (g := (mkF m 13 #[.val (.int p0)] [])) rfl (hb hby d2_13)
      obtain ⟨fs, hr, hrun, hended, hW, hsame⟩ := X6.leave (v := some (.ref (A 1))) (fun h => by rw [Bd.returns] at h; cases h)
      refine ⟨_, _, ?_, hrun, hended, _, _, rfl, ?_, ⟨_, rfl⟩, hW, hsame.mono (by decide) (by decide)⟩
      · show Steps p.tables e below (s₁.setTop (mkF m 13 #[.val (.int p0)] [])) _
        refine st6 _ ?_
        show Steps p.tables e below (T6.setTop (mkF m 16 #[.val (.int p0)] [(.ref (A 1))])) _
        jvm_step X6.here [X6.here.top, hx, (hb hby d2_16), X6.method', Bd.returns, Value.isRef, FieldType.isReference]
        first | (intro acts; rw [hr _ acts rfl rfl rfl]) | rw [hr _ _ rfl rfl rfl]
        exact Steps.refl _
      · show Q2 Z p0 A h0 n0 _ T6.heap _
        rw [e6]
        have c0 := own_isnt hc1_2 (n := 0) (by decide)
        have c1 := own_is hc10_5 (n := 1) (by decide)
        have cn : p0.toInt = ((1 : Nat) : Int) := by omega
        refine ⟨1, ?_, N0, rfl, by decide, cn⟩
        rfl
    · have K : ∀ target, Steps p.tables e below (s₁.setTop (mkF m 17 #[.val (.int p0)] [])) target → Steps p.tables e below (s₁.setTop (mkF m 10 #[.val (.int p0)] [(.int (1 : Int32)), (.int p0)])) target := by
        intro target kt
        refine XS.icmpYes X0.here hx rfl (pc0 := 10) (pc' := 17) rfl (hb hby d2_10) rfl (feq hc10_5).2 (by decide) (by decide) ?_
        exact kt
      refine Done.of ?_ K
      have K7 : ∀ target, Steps p.tables e below (s₁.setTop (mkF m 19 #[.val (.int p0)] [(.int (2 : Int32)), (.int p0)])) target → Steps p.tables e below (s₁.setTop (mkF m 17 #[.val (.int p0)] [])) target := by
        intro target kt
        show Steps p.tables e below (s₁.setTop (mkF m 17 #[.val (.int p0)] [])) _
        refine XS.iloadN X0.here hx rfl (hb hby d2_17) rfl ?_
        show Steps p.tables e below (s₁.setTop (mkF m 18 #[.val (.int p0)] [(.int p0)])) _
        refine XS.iconst X0.here hx rfl (hb hby d2_18) ?_
        exact kt
      refine Done.of ?_ K7
      by_cases hc19_8 : p0 = (2 : Int32)
      · have K : ∀ target, Steps p.tables e below (s₁.setTop (mkF m 22 #[.val (.int p0)] [])) target → Steps p.tables e below (s₁.setTop (mkF m 19 #[.val (.int p0)] [(.int (2 : Int32)), (.int p0)])) target := by
          intro target kt
          refine XS.icmpNo X0.here hx rfl (hb hby d2_19) rfl (teq hc19_8).2 ?_
          exact kt
        refine Done.of ?_ K
        obtain ⟨T9, X9, e9, st9⟩ := getS2 X0 hx hZ hown (host := "") (Or.inl (hw _ (List.mem_of_getElem? (i := 34) rfl))) Via.refl e0 S2 (g := (mkF m 22 #[.val (.int p0)] [])) rfl (hb hby d2_22)
        obtain ⟨fs, hr, hrun, hended, hW, hsame⟩ := X9.leave (v := some (.ref (A 2))) (fun h => by rw [Bd.returns] at h; cases h)
        refine ⟨_, _, ?_, hrun, hended, _, _, rfl, ?_, ⟨_, rfl⟩, hW, hsame.mono (by decide) (by decide)⟩
        · show Steps p.tables e below (s₁.setTop (mkF m 22 #[.val (.int p0)] [])) _
          refine st9 _ ?_
          show Steps p.tables e below (T9.setTop (mkF m 25 #[.val (.int p0)] [(.ref (A 2))])) _
          jvm_step X9.here [X9.here.top, hx, (hb hby d2_25), X9.method', Bd.returns, Value.isRef, FieldType.isReference]
          first | (intro acts; rw [hr _ acts rfl rfl rfl]) | rw [hr _ _ rfl rfl rfl]
          exact Steps.refl _
        · show Q2 Z p0 A h0 n0 _ T9.heap _
          rw [e9]
          have c0 := own_isnt hc1_2 (n := 0) (by decide)
          have c1 := own_isnt hc10_5 (n := 1) (by decide)
          have c2 := own_is hc19_8 (n := 2) (by decide)
          have cn : p0.toInt = ((2 : Nat) : Int) := by omega
          refine ⟨2, ?_, N0, rfl, by decide, cn⟩
          rfl
      · have K : ∀ target, Steps p.tables e below (s₁.setTop (mkF m 26 #[.val (.int p0)] [])) target → Steps p.tables e below (s₁.setTop (mkF m 19 #[.val (.int p0)] [(.int (2 : Int32)), (.int p0)])) target := by
          intro target kt
          refine XS.icmpYes X0.here hx rfl (pc0 := 19) (pc' := 26) rfl (hb hby d2_19) rfl (feq hc19_8).2 (by decide) (by decide) ?_
          exact kt
        refine Done.of ?_ K
        have K10 : ∀ target, Steps p.tables e below (s₁.setTop (mkF m 28 #[.val (.int p0)] [(.int (3 : Int32)), (.int p0)])) target → Steps p.tables e below (s₁.setTop (mkF m 26 #[.val (.int p0)] [])) target := by
          intro target kt
          show Steps p.tables e below (s₁.setTop (mkF m 26 #[.val (.int p0)] [])) _
          refine XS.iloadN X0.here hx rfl (hb hby d2_26) rfl ?_
          show Steps p.tables e below (s₁.setTop (mkF m 27 #[.val (.int p0)] [(.int p0)])) _
          refine XS.iconst X0.here hx rfl (hb hby d2_27) ?_
          exact kt
        refine Done.of ?_ K10
        by_cases hc28_11 : p0 = (3 : Int32)
        · have K : ∀ target, Steps p.tables e below (s₁.setTop (mkF m 31 #[.val (.int p0)] [])) target → Steps p.tables e below (s₁.setTop (mkF m 28 #[.val (.int p0)] [(.int (3 : Int32)), (.int p0)])) target := by
            intro target kt
            refine XS.icmpNo X0.here hx rfl (hb hby d2_28) rfl (teq hc28_11).2 ?_
            exact kt
          refine Done.of ?_ K
          obtain ⟨T12, X12, e12, st12⟩ := getS2 X0 hx hZ hown (host := "") (Or.inl (hw _ (List.mem_of_getElem? (i := 22) rfl))) Via.refl e0 S3 (g := (mkF m 31 #[.val (.int p0)] [])) rfl (hb hby d2_31)
          obtain ⟨fs, hr, hrun, hended, hW, hsame⟩ := X12.leave (v := some (.ref (A 3))) (fun h => by rw [Bd.returns] at h; cases h)
          refine ⟨_, _, ?_, hrun, hended, _, _, rfl, ?_, ⟨_, rfl⟩, hW, hsame.mono (by decide) (by decide)⟩
          · show Steps p.tables e below (s₁.setTop (mkF m 31 #[.val (.int p0)] [])) _
            refine st12 _ ?_
            show Steps p.tables e below (T12.setTop (mkF m 34 #[.val (.int p0)] [(.ref (A 3))])) _
            jvm_step X12.here [X12.here.top, hx, (hb hby d2_34), X12.method', Bd.returns, Value.isRef, FieldType.isReference]
            first | (intro acts; rw [hr _ acts rfl rfl rfl]) | rw [hr _ _ rfl rfl rfl]
            exact Steps.refl _
          · show Q2 Z p0 A h0 n0 _ T12.heap _
            rw [e12]
            have c0 := own_isnt hc1_2 (n := 0) (by decide)
            have c1 := own_isnt hc10_5 (n := 1) (by decide)
            have c2 := own_isnt hc19_8 (n := 2) (by decide)
            have c3 := own_is hc28_11 (n := 3) (by decide)
            have cn : p0.toInt = ((3 : Nat) : Int) := by omega
            refine ⟨3, ?_, N0, rfl, by decide, cn⟩
            rfl
        · have K : ∀ target, Steps p.tables e below (s₁.setTop (mkF m 35 #[.val (.int p0)] [])) target → Steps p.tables e below (s₁.setTop (mkF m 28 #[.val (.int p0)] [(.int (3 : Int32)), (.int p0)])) target := by
            intro target kt
            refine XS.icmpYes X0.here hx rfl (pc0 := 28) (pc' := 35) rfl (hb hby d2_28) rfl (feq hc28_11).2 (by decide) (by decide) ?_
            exact kt
          refine Done.of ?_ K
          have K13 : ∀ target, Steps p.tables e below (s₁.setTop (mkF m 37 #[.val (.int p0)] [(.int (4 : Int32)), (.int p0)])) target → Steps p.tables e below (s₁.setTop (mkF m 35 #[.val (.int p0)] [])) target := by
            intro target kt
            show Steps p.tables e below (s₁.setTop (mkF m 35 #[.val (.int p0)] [])) _
            refine XS.iloadN X0.here hx rfl (hb hby d2_35) rfl ?_
            show Steps p.tables e below (s₁.setTop (mkF m 36 #[.val (.int p0)] [(.int p0)])) _
            refine XS.iconst X0.here hx rfl (hb hby d2_36) ?_
            exact kt
          refine Done.of ?_ K13
          by_cases hc37_14 : p0 = (4 : Int32)
          · have K : ∀ target, Steps p.tables e below (s₁.setTop (mkF m 40 #[.val (.int p0)] [])) target → Steps p.tables e below (s₁.setTop (mkF m 37 #[.val (.int p0)] [(.int (4 : Int32)), (.int p0)])) target := by
              intro target kt
              refine XS.icmpNo X0.here hx rfl (hb hby d2_37) rfl (teq hc37_14).2 ?_
              exact kt
            refine Done.of ?_ K
            obtain ⟨T15, X15, e15, st15⟩ := getS2 X0 hx hZ hown (host := "") (Or.inl (hw _ (List.mem_of_getElem? (i := 20) rfl))) Via.refl e0 S4 (g := (mkF m 40 #[.val (.int p0)] [])) rfl (hb hby d2_40)
            obtain ⟨fs, hr, hrun, hended, hW, hsame⟩ := X15.leave (v := some (.ref (A 4))) (fun h => by rw [Bd.returns] at h; cases h)
            refine ⟨_, _, ?_, hrun, hended, _, _, rfl, ?_, ⟨_, rfl⟩, hW, hsame.mono (by decide) (by decide)⟩
            · show Steps p.tables e below (s₁.setTop (mkF m 40 #[.val (.int p0)] [])) _
              refine st15 _ ?_
              show Steps p.tables e below (T15.setTop (mkF m 43 #[.val (.int p0)] [(.ref (A 4))])) _
              jvm_step X15.here [X15.here.top, hx, (hb hby d2_43), X15.method', Bd.returns, Value.isRef, FieldType.isReference]
              first | (intro acts; rw [hr _ acts rfl rfl rfl]) | rw [hr _ _ rfl rfl rfl]
              exact Steps.refl _
            · show Q2 Z p0 A h0 n0 _ T15.heap _
              rw [e15]
              have c0 := own_isnt hc1_2 (n := 0) (by decide)
              have c1 := own_isnt hc10_5 (n := 1) (by decide)
              have c2 := own_isnt hc19_8 (n := 2) (by decide)
              have c3 := own_isnt hc28_11 (n := 3) (by decide)
              have c4 := own_is hc37_14 (n := 4) (by decide)
              have cn : p0.toInt = ((4 : Nat) : Int) := by omega
              refine ⟨4, ?_, N0, rfl, by decide, cn⟩
              rfl
          · have K : ∀ target, Steps p.tables e below (s₁.setTop (mkF m 44 #[.val (.int p0)] [])) target → Steps p.tables e below (s₁.setTop (mkF m 37 #[.val (.int p0)] [(.int (4 : Int32)), (.int p0)])) target := by
              intro target kt
              refine XS.icmpYes X0.here hx rfl (pc0 := 37) (pc' := 44) rfl (hb hby d2_37) rfl (feq hc37_14).2 (by decide) (by decide) ?_
              exact kt
            refine Done.of ?_ K
            have K16 : ∀ target, Steps p.tables e below (s₁.setTop (mkF m 46 #[.val (.int p0)] [(.int (5 : Int32)), (.int p0)])) target → Steps p.tables e below (s₁.setTop (mkF m 44 #[.val (.int p0)] [])) target := by
              intro target kt
              show Steps p.tables e below (s₁.setTop (mkF m 44 #[.val (.int p0)] [])) _
              refine XS.iloadN X0.here hx rfl (hb hby d2_44) rfl ?_
              show Steps p.tables e below (s₁.setTop (mkF m 45 #[.val (.int p0)] [(.int p0)])) _
              refine XS.iconst X0.here hx rfl (hb hby d2_45) ?_
              exact kt
            refine Done.of ?_ K16
            by_cases hc46_17 : p0 = (5 : Int32)
            · have K : ∀ target, Steps p.tables e below (s₁.setTop (mkF m 49 #[.val (.int p0)] [])) target → Steps p.tables e below (s₁.setTop (mkF m 46 #[.val (.int p0)] [(.int (5 : Int32)), (.int p0)])) target := by
                intro target kt
                refine XS.icmpNo X0.here hx rfl (hb hby d2_46) rfl (teq hc46_17).2 ?_
                exact kt
              refine Done.of ?_ K
              obtain ⟨T18, X18, e18, st18⟩ := getS2 X0 hx hZ hown (host := "") (Or.inl (hw _ (List.mem_of_getElem? (i := 26) rfl))) Via.refl e0 S5 (g := (mkF m 49 #[.val (.int p0)] [])) rfl (hb hby d2_49)
              obtain ⟨fs, hr, hrun, hended, hW, hsame⟩ := X18.leave (v := some (.ref (A 5))) (fun h => by rw [Bd.returns] at h; cases h)
              refine ⟨_, _, ?_, hrun, hended, _, _, rfl, ?_, ⟨_, rfl⟩, hW, hsame.mono (by decide) (by decide)⟩
              · show Steps p.tables e below (s₁.setTop (mkF m 49 #[.val (.int p0)] [])) _
                refine st18 _ ?_
                show Steps p.tables e below (T18.setTop (mkF m 52 #[.val (.int p0)] [(.ref (A 5))])) _
                jvm_step X18.here [X18.here.top, hx, (hb hby d2_52), X18.method', Bd.returns, Value.isRef, FieldType.isReference]
                first | (intro acts; rw [hr _ acts rfl rfl rfl]) | rw [hr _ _ rfl rfl rfl]
                exact Steps.refl _
              · show Q2 Z p0 A h0 n0 _ T18.heap _
                rw [e18]
                have c0 := own_isnt hc1_2 (n := 0) (by decide)
                have c1 := own_isnt hc10_5 (n := 1) (by decide)
                have c2 := own_isnt hc19_8 (n := 2) (by decide)
                have c3 := own_isnt hc28_11 (n := 3) (by decide)
                have c4 := own_isnt hc37_14 (n := 4) (by decide)
                have c5 := own_is hc46_17 (n := 5) (by decide)
                have cn : p0.toInt = ((5 : Nat) : Int) := by omega
                refine ⟨5, ?_, N0, rfl, by decide, cn⟩
                rfl
            · have K : ∀ target, Steps p.tables e below (s₁.setTop (mkF m 53 #[.val (.int p0)] [])) target → Steps p.tables e below (s₁.setTop (mkF m 46 #[.val (.int p0)] [(.int (5 : Int32)), (.int p0)])) target := by
                intro target kt
                refine XS.icmpYes X0.here hx rfl (pc0 := 46) (pc' := 53) rfl (hb hby d2_46) rfl (feq hc46_17).2 (by decide) (by decide) ?_
                exact kt
              refine Done.of ?_ K
              have K19 : ∀ target, Steps p.tables e below (s₁.setTop (mkF m 56 #[.val (.int p0)] [(.int (6 : Int32)), (.int p0)])) target → Steps p.tables e below (s₁.setTop (mkF m 53 #[.val (.int p0)] [])) target := by
                intro target kt
                show Steps p.tables e below (s₁.setTop (mkF m 53 #[.val (.int p0)] [])) _
                refine XS.iloadN X0.here hx rfl (hb hby d2_53) rfl ?_
                show Steps p.tables e below (s₁.setTop (mkF m 54 #[.val (.int p0)] [(.int p0)])) _
                refine XS.bipush X0.here hx rfl (hb hby d2_54) ?_
                exact kt
              refine Done.of ?_ K19
              by_cases hc56_20 : p0 = (6 : Int32)
              · have K : ∀ target, Steps p.tables e below (s₁.setTop (mkF m 59 #[.val (.int p0)] [])) target → Steps p.tables e below (s₁.setTop (mkF m 56 #[.val (.int p0)] [(.int (6 : Int32)), (.int p0)])) target := by
                  intro target kt
                  refine XS.icmpNo X0.here hx rfl (hb hby d2_56) rfl (teq hc56_20).2 ?_
                  exact kt
                refine Done.of ?_ K
                obtain ⟨T21, X21, e21, st21⟩ := getS2 X0 hx hZ hown (host := "") (Or.inl (hw _ (List.mem_of_getElem? (i := 28) rfl))) Via.refl e0 S6 (g := (mkF m 59 #[.val (.int p0)] [])) rfl (hb hby d2_59)
                obtain ⟨fs, hr, hrun, hended, hW, hsame⟩ := X21.leave (v := some (.ref (A 6))) (fun h => by rw [Bd.returns] at h; cases h)
                refine ⟨_, _, ?_, hrun, hended, _, _, rfl, ?_, ⟨_, rfl⟩, hW, hsame.mono (by decide) (by decide)⟩
                · show Steps p.tables e below (s₁.setTop (mkF m 59 #[.val (.int p0)] [])) _
                  refine st21 _ ?_
                  show Steps p.tables e below (T21.setTop (mkF m 62 #[.val (.int p0)] [(.ref (A 6))])) _
                  jvm_step X21.here [X21.here.top, hx, (hb hby d2_62), X21.method', Bd.returns, Value.isRef, FieldType.isReference]
                  first | (intro acts; rw [hr _ acts rfl rfl rfl]) | rw [hr _ _ rfl rfl rfl]
                  exact Steps.refl _
                · show Q2 Z p0 A h0 n0 _ T21.heap _
                  rw [e21]
                  have c0 := own_isnt hc1_2 (n := 0) (by decide)
                  have c1 := own_isnt hc10_5 (n := 1) (by decide)
                  have c2 := own_isnt hc19_8 (n := 2) (by decide)
                  have c3 := own_isnt hc28_11 (n := 3) (by decide)
                  have c4 := own_isnt hc37_14 (n := 4) (by decide)
                  have c5 := own_isnt hc46_17 (n := 5) (by decide)
                  have c6 := own_is hc56_20 (n := 6) (by decide)
                  have cn : p0.toInt = ((6 : Nat) : Int) := by omega
                  refine ⟨6, ?_, N0, rfl, by decide, cn⟩
                  rfl
              · have K : ∀ target, Steps p.tables e below (s₁.setTop (mkF m 63 #[.val (.int p0)] [])) target → Steps p.tables e below (s₁.setTop (mkF m 56 #[.val (.int p0)] [(.int (6 : Int32)), (.int p0)])) target := by
                  intro target kt
                  refine XS.icmpYes X0.here hx rfl (pc0 := 56) (pc' := 63) rfl (hb hby d2_56) rfl (feq hc56_20).2 (by decide) (by decide) ?_
                  exact kt
                refine Done.of ?_ K
                have K22 : ∀ target, Steps p.tables e below (s₁.setTop (mkF m 66 #[.val (.int p0)] [(.int (7 : Int32)), (.int p0)])) target → Steps p.tables e below (s₁.setTop (mkF m 63 #[.val (.int p0)] [])) target := by
                  intro target kt
                  show Steps p.tables e below (s₁.setTop (mkF m 63 #[.val (.int p0)] [])) _
                  refine XS.iloadN X0.here hx rfl (hb hby d2_63) rfl ?_
                  show Steps p.tables e below (s₁.setTop (mkF m 64 #[.val (.int p0)] [(.int p0)])) _
                  refine XS.bipush X0.here hx rfl (hb hby d2_64) ?_
                  exact kt
                refine Done.of ?_ K22
                by_cases hc66_23 : p0 = (7 : Int32)
                · have K : ∀ target, Steps p.tables e below (s₁.setTop (mkF m 69 #[.val (.int p0)] [])) target → Steps p.tables e below (s₁.setTop (mkF m 66 #[.val (.int p0)] [(.int (7 : Int32)), (.int p0)])) target := by
                    intro target kt
                    refine XS.icmpNo X0.here hx rfl (hb hby d2_66) rfl (teq hc66_23).2 ?_
                    exact kt
                  refine Done.of ?_ K
                  obtain ⟨T24, X24, e24, st24⟩ := getS2 X0 hx hZ hown (host := "") (Or.inl (hw _ (List.mem_of_getElem? (i := 40) rfl))) Via.refl e0 S7 (g := (mkF m 69 #[.val (.int p0)] [])) rfl (hb hby d2_69)
                  obtain ⟨fs, hr, hrun, hended, hW, hsame⟩ := X24.leave (v := some (.ref (A 7))) (fun h => by rw [Bd.returns] at h; cases h)
                  refine ⟨_, _, ?_, hrun, hended, _, _, rfl, ?_, ⟨_, rfl⟩, hW, hsame.mono (by decide) (by decide)⟩
                  · show Steps p.tables e below (s₁.setTop (mkF m 69 #[.val (.int p0)] [])) _
                    refine st24 _ ?_
                    show Steps p.tables e below (T24.setTop (mkF m 72 #[.val (.int p0)] [(.ref (A 7))])) _
                    jvm_step X24.here [X24.here.top, hx, (hb hby d2_72), X24.method', Bd.returns, Value.isRef, FieldType.isReference]
                    first | (intro acts; rw [hr _ acts rfl rfl rfl]) | rw [hr _ _ rfl rfl rfl]
                    exact Steps.refl _
                  · show Q2 Z p0 A h0 n0 _ T24.heap _
                    rw [e24]
                    have c0 := own_isnt hc1_2 (n := 0) (by decide)
                    have c1 := own_isnt hc10_5 (n := 1) (by decide)
                    have c2 := own_isnt hc19_8 (n := 2) (by decide)
                    have c3 := own_isnt hc28_11 (n := 3) (by decide)
                    have c4 := own_isnt hc37_14 (n := 4) (by decide)
                    have c5 := own_isnt hc46_17 (n := 5) (by decide)
                    have c6 := own_isnt hc56_20 (n := 6) (by decide)
                    have c7 := own_is hc66_23 (n := 7) (by decide)
                    have cn : p0.toInt = ((7 : Nat) : Int) := by omega
                    refine ⟨7, ?_, N0, rfl, by decide, cn⟩
                    rfl
                · have K : ∀ target, Steps p.tables e below (s₁.setTop (mkF m 73 #[.val (.int p0)] [])) target → Steps p.tables e below (s₁.setTop (mkF m 66 #[.val (.int p0)] [(.int (7 : Int32)), (.int p0)])) target := by
                    intro target kt
                    refine XS.icmpYes X0.here hx rfl (pc0 := 66) (pc' := 73) rfl (hb hby d2_66) rfl (feq hc66_23).2 (by decide) (by decide) ?_
                    exact kt
                  refine Done.of ?_ K
                  have K25 : ∀ target, Steps p.tables e below (s₁.setTop (mkF m 76 #[.val (.int p0)] [(.int (8 : Int32)), (.int p0)])) target → Steps p.tables e below (s₁.setTop (mkF m 73 #[.val (.int p0)] [])) target := by
                    intro target kt
                    show Steps p.tables e below (s₁.setTop (mkF m 73 #[.val (.int p0)] [])) _
                    refine XS.iloadN X0.here hx rfl (hb hby d2_73) rfl ?_
                    show Steps p.tables e below (s₁.setTop (mkF m 74 #[.val (.int p0)] [(.int p0)])) _
                    refine XS.bipush X0.here hx rfl (hb hby d2_74) ?_
                    exact kt
                  refine Done.of ?_ K25
                  by_cases hc76_26 : p0 = (8 : Int32)
                  · have K : ∀ target, Steps p.tables e below (s₁.setTop (mkF m 79 #[.val (.int p0)] [])) target → Steps p.tables e below (s₁.setTop (mkF m 76 #[.val (.int p0)] [(.int (8 : Int32)), (.int p0)])) target := by
                      intro target kt
                      refine XS.icmpNo X0.here hx rfl (hb hby d2_76) rfl (teq hc76_26).2 ?_
                      exact kt
                    refine Done.of ?_ K
                    obtain ⟨T27, X27, e27, st27⟩ := getS2 X0 hx hZ hown (host := "") (Or.inl (hw _ (List.mem_of_getElem? (i := 30) rfl))) Via.refl e0 S8 (g := (mkF m 79 #[.val (.int p0)] [])) rfl (hb hby d2_79)
                    obtain ⟨fs, hr, hrun, hended, hW, hsame⟩ := X27.leave (v := some (.ref (A 8))) (fun h => by rw [Bd.returns] at h; cases h)
                    refine ⟨_, _, ?_, hrun, hended, _, _, rfl, ?_, ⟨_, rfl⟩, hW, hsame.mono (by decide) (by decide)⟩
                    · show Steps p.tables e below (s₁.setTop (mkF m 79 #[.val (.int p0)] [])) _
                      refine st27 _ ?_
                      show Steps p.tables e below (T27.setTop (mkF m 82 #[.val (.int p0)] [(.ref (A 8))])) _
                      jvm_step X27.here [X27.here.top, hx, (hb hby d2_82), X27.method', Bd.returns, Value.isRef, FieldType.isReference]
                      first | (intro acts; rw [hr _ acts rfl rfl rfl]) | rw [hr _ _ rfl rfl rfl]
                      exact Steps.refl _
                    · show Q2 Z p0 A h0 n0 _ T27.heap _
                      rw [e27]
                      have c0 := own_isnt hc1_2 (n := 0) (by decide)
                      have c1 := own_isnt hc10_5 (n := 1) (by decide)
                      have c2 := own_isnt hc19_8 (n := 2) (by decide)
                      have c3 := own_isnt hc28_11 (n := 3) (by decide)
                      have c4 := own_isnt hc37_14 (n := 4) (by decide)
                      have c5 := own_isnt hc46_17 (n := 5) (by decide)
                      have c6 := own_isnt hc56_20 (n := 6) (by decide)
                      have c7 := own_isnt hc66_23 (n := 7) (by decide)
                      have c8 := own_is hc76_26 (n := 8) (by decide)
                      have cn : p0.toInt = ((8 : Nat) : Int) := by omega
                      refine ⟨8, ?_, N0, rfl, by decide, cn⟩
                      rfl
                  · have K : ∀ target, Steps p.tables e below (s₁.setTop (mkF m 83 #[.val (.int p0)] [])) target → Steps p.tables e below (s₁.setTop (mkF m 76 #[.val (.int p0)] [(.int (8 : Int32)), (.int p0)])) target := by
                      intro target kt
                      refine XS.icmpYes X0.here hx rfl (pc0 := 76) (pc' := 83) rfl (hb hby d2_76) rfl (feq hc76_26).2 (by decide) (by decide) ?_
                      exact kt
                    refine Done.of ?_ K
                    have K28 : ∀ target, Steps p.tables e below (s₁.setTop (mkF m 86 #[.val (.int p0)] [(.int (9 : Int32)), (.int p0)])) target → Steps p.tables e below (s₁.setTop (mkF m 83 #[.val (.int p0)] [])) target := by
                      intro target kt
                      show Steps p.tables e below (s₁.setTop (mkF m 83 #[.val (.int p0)] [])) _
                      refine XS.iloadN X0.here hx rfl (hb hby d2_83) rfl ?_
                      show Steps p.tables e below (s₁.setTop (mkF m 84 #[.val (.int p0)] [(.int p0)])) _
                      refine XS.bipush X0.here hx rfl (hb hby d2_84) ?_
                      exact kt
                    refine Done.of ?_ K28
                    by_cases hc86_29 : p0 = (9 : Int32)
                    · have K : ∀ target, Steps p.tables e below (s₁.setTop (mkF m 89 #[.val (.int p0)] [])) target → Steps p.tables e below (s₁.setTop (mkF m 86 #[.val (.int p0)] [(.int (9 : Int32)), (.int p0)])) target := by
                        intro target kt
                        refine XS.icmpNo X0.here hx rfl (hb hby d2_86) rfl (teq hc86_29).2 ?_
                        exact kt
                      refine Done.of ?_ K
                      obtain ⟨T30, X30, e30, st30⟩ := getS2 X0 hx hZ hown (host := "") (Or.inl (hw _ (List.mem_of_getElem? (i := 24) rfl))) Via.refl e0 S9 (g := (mkF m 89 #[.val (.int p0)] [])) rfl (hb hby d2_89)
                      obtain ⟨fs, hr, hrun, hended, hW, hsame⟩ := X30.leave (v := some (.ref (A 9))) (fun h => by rw [Bd.returns] at h; cases h)
                      refine ⟨_, _, ?_, hrun, hended, _, _, rfl, ?_, ⟨_, rfl⟩, hW, hsame.mono (by decide) (by decide)⟩
                      · show Steps p.tables e below (s₁.setTop (mkF m 89 #[.val (.int p0)] [])) _
                        refine st30 _ ?_
                        show Steps p.tables e below (T30.setTop (mkF m 92 #[.val (.int p0)] [(.ref (A 9))])) _
                        jvm_step X30.here [X30.here.top, hx, (hb hby d2_92), X30.method', Bd.returns, Value.isRef, FieldType.isReference]
                        first | (intro acts; rw [hr _ acts rfl rfl rfl]) | rw [hr _ _ rfl rfl rfl]
                        exact Steps.refl _
                      · show Q2 Z p0 A h0 n0 _ T30.heap _
                        rw [e30]
                        have c0 := own_isnt hc1_2 (n := 0) (by decide)
                        have c1 := own_isnt hc10_5 (n := 1) (by decide)
                        have c2 := own_isnt hc19_8 (n := 2) (by decide)
                        have c3 := own_isnt hc28_11 (n := 3) (by decide)
                        have c4 := own_isnt hc37_14 (n := 4) (by decide)
                        have c5 := own_isnt hc46_17 (n := 5) (by decide)
                        have c6 := own_isnt hc56_20 (n := 6) (by decide)
                        have c7 := own_isnt hc66_23 (n := 7) (by decide)
                        have c8 := own_isnt hc76_26 (n := 8) (by decide)
                        have c9 := own_is hc86_29 (n := 9) (by decide)
                        have cn : p0.toInt = ((9 : Nat) : Int) := by omega
                        refine ⟨9, ?_, N0, rfl, by decide, cn⟩
                        rfl
                    · have K : ∀ target, Steps p.tables e below (s₁.setTop (mkF m 93 #[.val (.int p0)] [])) target → Steps p.tables e below (s₁.setTop (mkF m 86 #[.val (.int p0)] [(.int (9 : Int32)), (.int p0)])) target := by
                        intro target kt
                        refine XS.icmpYes X0.here hx rfl (pc0 := 86) (pc' := 93) rfl (hb hby d2_86) rfl (feq hc86_29).2 (by decide) (by decide) ?_
                        exact kt
                      refine Done.of ?_ K
                      have K31 : ∀ target, Steps p.tables e below (s₁.setTop (mkF m 96 #[.val (.int p0)] [(.int (10 : Int32)), (.int p0)])) target → Steps p.tables e below (s₁.setTop (mkF m 93 #[.val (.int p0)] [])) target := by
                        intro target kt
                        show Steps p.tables e below (s₁.setTop (mkF m 93 #[.val (.int p0)] [])) _
                        refine XS.iloadN X0.here hx rfl (hb hby d2_93) rfl ?_
                        show Steps p.tables e below (s₁.setTop (mkF m 94 #[.val (.int p0)] [(.int p0)])) _
                        refine XS.bipush X0.here hx rfl (hb hby d2_94) ?_
                        exact kt
                      refine Done.of ?_ K31
                      by_cases hc96_32 : p0 = (10 : Int32)
                      · have K : ∀ target, Steps p.tables e below (s₁.setTop (mkF m 99 #[.val (.int p0)] [])) target → Steps p.tables e below (s₁.setTop (mkF m 96 #[.val (.int p0)] [(.int (10 : Int32)), (.int p0)])) target := by
                          intro target kt
                          refine XS.icmpNo X0.here hx rfl (hb hby d2_96) rfl (teq hc96_32).2 ?_
                          exact kt
                        refine Done.of ?_ K
                        obtain ⟨T33, X33, e33, st33⟩ := getS2 X0 hx hZ hown (host := "") (Or.inl (hw _ (List.mem_of_getElem? (i := 36) rfl))) Via.refl e0 S10 (g := (mkF m 99 #[.val (.int p0)] [])) rfl (hb hby d2_99)
                        obtain ⟨fs, hr, hrun, hended, hW, hsame⟩ := X33.leave (v := some (.ref (A 10))) (fun h => by rw [Bd.returns] at h; cases h)
                        refine ⟨_, _, ?_, hrun, hended, _, _, rfl, ?_, ⟨_, rfl⟩, hW, hsame.mono (by decide) (by decide)⟩
                        · show Steps p.tables e below (s₁.setTop (mkF m 99 #[.val (.int p0)] [])) _
                          refine st33 _ ?_
                          show Steps p.tables e below (T33.setTop (mkF m 102 #[.val (.int p0)] [(.ref (A 10))])) _
                          jvm_step X33.here [X33.here.top, hx, (hb hby d2_102), X33.method', Bd.returns, Value.isRef, FieldType.isReference]
                          first | (intro acts; rw [hr _ acts rfl rfl rfl]) | rw [hr _ _ rfl rfl rfl]
                          exact Steps.refl _
                        · show Q2 Z p0 A h0 n0 _ T33.heap _
                          rw [e33]
                          have c0 := own_isnt hc1_2 (n := 0) (by decide)
                          have c1 := own_isnt hc10_5 (n := 1) (by decide)
                          have c2 := own_isnt hc19_8 (n := 2) (by decide)
                          have c3 := own_isnt hc28_11 (n := 3) (by decide)
                          have c4 := own_isnt hc37_14 (n := 4) (by decide)
                          have c5 := own_isnt hc46_17 (n := 5) (by decide)
                          have c6 := own_isnt hc56_20 (n := 6) (by decide)
                          have c7 := own_isnt hc66_23 (n := 7) (by decide)
                          have c8 := own_isnt hc76_26 (n := 8) (by decide)
                          have c9 := own_isnt hc86_29 (n := 9) (by decide)
                          have c10 := own_is hc96_32 (n := 10) (by decide)
                          have cn : p0.toInt = ((10 : Nat) : Int) := by omega
                          refine ⟨10, ?_, N0, rfl, by decide, cn⟩
                          rfl
                      · have K : ∀ target, Steps p.tables e below (s₁.setTop (mkF m 103 #[.val (.int p0)] [])) target → Steps p.tables e below (s₁.setTop (mkF m 96 #[.val (.int p0)] [(.int (10 : Int32)), (.int p0)])) target := by
                          intro target kt
                          refine XS.icmpYes X0.here hx rfl (pc0 := 96) (pc' := 103) rfl (hb hby d2_96) rfl (feq hc96_32).2 (by decide) (by decide) ?_
                          exact kt
                        refine Done.of ?_ K
                        have K34 : ∀ target, Steps p.tables e below (s₁.setTop (mkF m 106 #[.val (.int p0)] [(.int (11 : Int32)), (.int p0)])) target → Steps p.tables e below (s₁.setTop (mkF m 103 #[.val (.int p0)] [])) target := by
                          intro target kt
                          show Steps p.tables e below (s₁.setTop (mkF m 103 #[.val (.int p0)] [])) _
                          refine XS.iloadN X0.here hx rfl (hb hby d2_103) rfl ?_
                          show Steps p.tables e below (s₁.setTop (mkF m 104 #[.val (.int p0)] [(.int p0)])) _
                          refine XS.bipush X0.here hx rfl (hb hby d2_104) ?_
                          exact kt
                        refine Done.of ?_ K34
                        by_cases hc106_35 : p0 = (11 : Int32)
                        · have K : ∀ target, Steps p.tables e below (s₁.setTop (mkF m 109 #[.val (.int p0)] [])) target → Steps p.tables e below (s₁.setTop (mkF m 106 #[.val (.int p0)] [(.int (11 : Int32)), (.int p0)])) target := by
                            intro target kt
                            refine XS.icmpNo X0.here hx rfl (hb hby d2_106) rfl (teq hc106_35).2 ?_
                            exact kt
                          refine Done.of ?_ K
                          obtain ⟨T36, X36, e36, st36⟩ := getS2 X0 hx hZ hown (host := "") (Or.inl (hw _ (List.mem_of_getElem? (i := 38) rfl))) Via.refl e0 S11 (g := (mkF m 109 #[.val (.int p0)] [])) rfl (hb hby d2_109)
                          obtain ⟨fs, hr, hrun, hended, hW, hsame⟩ := X36.leave (v := some (.ref (A 11))) (fun h => by rw [Bd.returns] at h; cases h)
                          refine ⟨_, _, ?_, hrun, hended, _, _, rfl, ?_, ⟨_, rfl⟩, hW, hsame.mono (by decide) (by decide)⟩
                          · show Steps p.tables e below (s₁.setTop (mkF m 109 #[.val (.int p0)] [])) _
                            refine st36 _ ?_
                            show Steps p.tables e below (T36.setTop (mkF m 112 #[.val (.int p0)] [(.ref (A 11))])) _
                            jvm_step X36.here [X36.here.top, hx, (hb hby d2_112), X36.method', Bd.returns, Value.isRef, FieldType.isReference]
                            first | (intro acts; rw [hr _ acts rfl rfl rfl]) | rw [hr _ _ rfl rfl rfl]
                            exact Steps.refl _
                          · show Q2 Z p0 A h0 n0 _ T36.heap _
                            rw [e36]
                            have c0 := own_isnt hc1_2 (n := 0) (by decide)
                            have c1 := own_isnt hc10_5 (n := 1) (by decide)
                            have c2 := own_isnt hc19_8 (n := 2) (by decide)
                            have c3 := own_isnt hc28_11 (n := 3) (by decide)
                            have c4 := own_isnt hc37_14 (n := 4) (by decide)
                            have c5 := own_isnt hc46_17 (n := 5) (by decide)
                            have c6 := own_isnt hc56_20 (n := 6) (by decide)
                            have c7 := own_isnt hc66_23 (n := 7) (by decide)
                            have c8 := own_isnt hc76_26 (n := 8) (by decide)
                            have c9 := own_isnt hc86_29 (n := 9) (by decide)
                            have c10 := own_isnt hc96_32 (n := 10) (by decide)
                            have c11 := own_is hc106_35 (n := 11) (by decide)
                            have cn : p0.toInt = ((11 : Nat) : Int) := by omega
                            refine ⟨11, ?_, N0, rfl, by decide, cn⟩
                            rfl
                        · have K : ∀ target, Steps p.tables e below (s₁.setTop (mkF m 113 #[.val (.int p0)] [])) target → Steps p.tables e below (s₁.setTop (mkF m 106 #[.val (.int p0)] [(.int (11 : Int32)), (.int p0)])) target := by
                            intro target kt
                            refine XS.icmpYes X0.here hx rfl (pc0 := 106) (pc' := 113) rfl (hb hby d2_106) rfl (feq hc106_35).2 (by decide) (by decide) ?_
                            exact kt
                          refine Done.of ?_ K
                          obtain ⟨T37, X37, e37, st37⟩ := getS2 X0 hx hZ hown (host := "") (Or.inl (hw _ (List.mem_of_getElem? (i := 32) rfl))) Via.refl e0 S12 (g := (mkF m 113 #[.val (.int p0)] [])) rfl (hb hby d2_113)
                          obtain ⟨fs, hr, hrun, hended, hW, hsame⟩ := X37.leave (v := some (.ref (A 12))) (fun h => by rw [Bd.returns] at h; cases h)
                          refine ⟨_, _, ?_, hrun, hended, _, _, rfl, ?_, ⟨_, rfl⟩, hW, hsame.mono (by decide) (by decide)⟩
                          · show Steps p.tables e below (s₁.setTop (mkF m 113 #[.val (.int p0)] [])) _
                            refine st37 _ ?_
                            show Steps p.tables e below (T37.setTop (mkF m 116 #[.val (.int p0)] [(.ref (A 12))])) _
                            jvm_step X37.here [X37.here.top, hx, (hb hby d2_116), X37.method', Bd.returns, Value.isRef, FieldType.isReference]
                            first | (intro acts; rw [hr _ acts rfl rfl rfl]) | rw [hr _ _ rfl rfl rfl]
                            exact Steps.refl _
                          · show Q2 Z p0 A h0 n0 _ T37.heap _
                            rw [e37]
                            have c0 := own_isnt hc1_2 (n := 0) (by decide)
                            have c1 := own_isnt hc10_5 (n := 1) (by decide)
                            have c2 := own_isnt hc19_8 (n := 2) (by decide)
                            have c3 := own_isnt hc28_11 (n := 3) (by decide)
                            have c4 := own_isnt hc37_14 (n := 4) (by decide)
                            have c5 := own_isnt hc46_17 (n := 5) (by decide)
                            have c6 := own_isnt hc56_20 (n := 6) (by decide)
                            have c7 := own_isnt hc66_23 (n := 7) (by decide)
                            have c8 := own_isnt hc76_26 (n := 8) (by decide)
                            have c9 := own_isnt hc86_29 (n := 9) (by decide)
                            have c10 := own_isnt hc96_32 (n := 10) (by decide)
                            have c11 := own_isnt hc106_35 (n := 11) (by decide)
                            have cn : p0.toInt = ((12 : Nat) : Int) := by omega
                            refine ⟨12, ?_, N0, rfl, by decide, cn⟩
                            rfl
theorem d3_0 : decode prog_1_method_6_code 0 = .ok (.iload_n 1, 1) := by decide +kernel
theorem d3_1 : decode prog_1_method_6_code 1 = .ok (.aload_n 0, 1) := by decide +kernel
theorem d3_2 : decode prog_1_method_6_code 2 = .ok (.getfield 72, 3) := by decide +kernel
theorem d3_5 : decode prog_1_method_6_code 5 = .ok (.if_icmp .lt 7, 3) := by decide +kernel
theorem d3_8 : decode prog_1_method_6_code 8 = .ok (.iconst 1, 1) := by decide +kernel
theorem d3_9 : decode prog_1_method_6_code 9 = .ok (.goto 4, 3) := by decide +kernel
theorem d3_12 : decode prog_1_method_6_code 12 = .ok (.iconst 0, 1) := by decide +kernel
theorem d3_13 : decode prog_1_method_6_code 13 = .ok (.ireturn, 1) := by decide +kernel
theorem pn_3 : plainName "com/example/brokerwire/brokerwire/ApiKey" = true := by first | (simp [plainName, overriddenIn]; done) | decide +kernel
theorem ef_3 (m : MethodId) (u0 : Addr) (p1 : Int32)  : entryFrame m #[(.ref u0), (.int p1)] 2 = mkF m 0 #[.val (.ref u0), .val (.int p1)] [] := by first | (simp [entryFrame, mkF, argsToLocals, Value.category]; done) | rfl
def Q3 (Z : State) (u0 : Addr) (p1 : Int32) (w : Int32) (h0 : Heap) (n0 : Nat) (v : Option Value) (h : Heap) (L : List Loc) : Prop := v = some (.int (if p1 < w then (0 : Int32) else (1 : Int32))) ∧ Fr n0 L ∧ h = h0
set_option maxRecDepth 65536 in
set_option maxHeartbeats 40000000 in
theorem rm3 (l : Launch) (Z : State) (a0 : Array Value) (hw : ∀ d ∈ tables_1, d.before a0 Z = true) (ws : List Jvm.Cond) (u0 : Addr) (p1 : Int32) (w : Int32) (h0 : Heap) (n0 : Nat) (Z0 : n0 ≤ h0.size) (FV : Fld Z h0 u0 "com/example/brokerwire/brokerwire/ApiKey" "firstFlexibleVersion" "S" (.int w)) :
    MetFree l (⟨"com/example/brokerwire/brokerwire/ApiKey", "isFlexible", "(S)Z"⟩ : MethodName) (head1 (Jvm.Cond.code (⟨"com/example/brokerwire/brokerwire/ApiKey", "isFlexible", "(S)Z"⟩ : MethodName) prog_1_method_6_code 2 (some .boolean) :: ws) ({ frames := 0, cells := 0, slots := 0, locals := 0 } : Room)) (fun a U => a = #[(.ref u0), (.int p1)] ∧ Z.Warmed39 U.vm ∧ U.heap = h0) (fun _ _ _ _ _ => True) (fun _ U o U' => ∃ v L, o = .returned v ∧ Q3 Z u0 p1 w h0 n0 v U'.heap L ∧ FrameEnd U o U' L ({ frames := 0, cells := 0, slots := 0, locals := 0 } : Room).cells ({ frames := 0, cells := 0, slots := 0, locals := 0 } : Room).slots) := by
  refine MetFree.of_bodySF (plainFor_of_name pn_3) hisR ?_
  intro p e s m args below meth c s₁ Bd hml0 hP hK
  obtain ⟨rfl, hZ, hh⟩ := hP
  have hx := Bd.exec
  have hby := Bd.bytes
  have hml : c.maxLocals = 2 := hml0
  have hown : s.vm.findClass "com/example/brokerwire/brokerwire/ApiKey" = some m.cls := findClass_of_methodNamed Bd.named
  have hnm := (name_of_methodNamed Bd.named Bd.method).1
  have X0 : Stand p l e ({ frames := 0, cells := 0, slots := 0, locals := 0 } : Room) s m #[(.ref u0), (.int p1)] below meth c s₁ [] 0 0 := Stand.of_body Bd
  have e0 : s₁.heap = h0 := by rw [← hh, Bd.state]; rfl
  have N0 := Fr.nil n0
  have pre0 : ∀ t, Steps p.tables e below (s₁.setTop (mkF m 0 #[.val (.ref u0), .val (.int p1)] [])) t → Steps p.tables e below (s₁.setTop (entryFrame m #[(.ref u0), (.int p1)] 2)) t := fun t k => castTop (ef_3 m u0 p1) k
  show Done p e below _ _
  refine Done.of ?_ pre0
  obtain ⟨T1, X1, e1, st1⟩ := getF X0 hx hZ hown (host := "") (Or.inl (hw _ (List.mem_of_getElem? (i := 16) rfl))) Via.refl e0 FV (g := (mkF m 2 #[.val (.ref u0), .val (.int p1)] [(.ref u0), (.int p1)])) rfl rfl (hb hby d3_2)
  have J5_2 : ∀ wj : Int32, wj = (if p1 < w then (0 : Int32) else (1 : Int32)) → ∀ target, Steps p.tables e below (T1.setTop (mkF m 13 #[.val (.ref u0), .val (.int p1)] [(.int wj)])) target → Steps p.tables e below (T1.setTop (mkF m 5 #[.val (.ref u0), .val (.int p1)] [(.int w), (.int p1)])) target := by
    intro wj hw0 target kt
    by_cases hj5 : p1 < w
    · rw [if_pos hj5] at hw0
      show Steps p.tables e below (T1.setTop (mkF m 5 #[.val (.ref u0), .val (.int p1)] [(.int w), (.int p1)])) _
      refine XS.icmpYes X1.here hx rfl (pc0 := 5) (pc' := 12) rfl (hb hby d3_5) rfl (tlt hj5).1 (by decide) (by decide) ?_
      show Steps p.tables e below (T1.setTop (mkF m 12 #[.val (.ref u0), .val (.int p1)] [])) _
      refine XS.iconst X1.here hx rfl (hb hby d3_12) ?_
      rw [hw0] at kt
      exact kt
    · rw [if_neg hj5] at hw0
      show Steps p.tables e below (T1.setTop (mkF m 5 #[.val (.ref u0), .val (.int p1)] [(.int w), (.int p1)])) _
      refine XS.icmpNo X1.here hx rfl (hb hby d3_5) rfl (flt hj5).1 ?_
      show Steps p.tables e below (T1.setTop (mkF m 8 #[.val (.ref u0), .val (.int p1)] [])) _
      refine XS.iconst X1.here hx rfl (hb hby d3_8) ?_
      show Steps p.tables e below (T1.setTop (mkF m 9 #[.val (.ref u0), .val (.int p1)] [(.int (1 : Int32))])) _
      refine XS.goto X1.here hx rfl (pc0 := 9) (pc' := 13) rfl (hb hby d3_9) (by decide) (by decide) ?_
      rw [hw0] at kt
      exact kt
  obtain ⟨fs, hr, hrun, hended, hW, hsame⟩ := X1.leave (v := some (.int (nar .boolean (if p1 < w then (0 : Int32) else (1 : Int32))))) (fun h => by rw [Bd.returns] at h; cases h)
  refine ⟨_, _, ?_, hrun, hended, _, _, rfl, ?_, ⟨_, rfl⟩, hW, hsame.mono (by decide) (by decide)⟩
  · show Steps p.tables e below (s₁.setTop (mkF m 0 #[.val (.ref u0), .val (.int p1)] [])) _
    refine XS.iloadN X0.here hx rfl (hb hby d3_0) rfl ?_
    show Steps p.tables e below (s₁.setTop (mkF m 1 #[.val (.ref u0), .val (.int p1)] [(.int p1)])) _
    refine XS.aloadN X0.here hx rfl (hb hby d3_1) rfl rfl ?_
    show Steps p.tables e below (s₁.setTop (mkF m 2 #[.val (.ref u0), .val (.int p1)] [(.ref u0), (.int p1)])) _
    refine st1 _ ?_
    show Steps p.tables e below (T1.setTop (mkF m 5 #[.val (.ref u0), .val (.int p1)] [(.int w), (.int p1)])) _
    refine J5_2 _ rfl _ ?_
    show Steps p.tables e below (T1.setTop (mkF m 13 #[.val (.ref u0), .val (.int p1)] [(.int (if p1 < w then (0 : Int32) else (1 : Int32)))])) _
    exact retN X1 hx (t := .boolean) Bd.returns (by simp) (hb hby d3_13) hr
  · show Q3 Z u0 p1 w h0 n0 _ T1.heap _
    rw [e1]
    refine ⟨?_, N0, rfl⟩
    ((repeat' split) <;> rfl)
theorem pn_0 : plainName "com/example/brokerwire/brokerwire/ApiKeyIsFlexiblePinLaw" = true := by first | (simp [plainName, overriddenIn]; done) | decide +kernel
theorem pd_0 : parseMethodDescriptor "(I)I" = some ⟨[.int], some .int⟩ := by decide +kernel
theorem pd_1 : parseMethodDescriptor "(I)Lcom/example/brokerwire/brokerwire/ApiKey;" = some ⟨[.int], some (.object "com/example/brokerwire/brokerwire/ApiKey")⟩ := by decide +kernel
theorem pd_2 : parseMethodDescriptor "(S)Z" = some ⟨[.short], some .boolean⟩ := by decide +kernel
theorem ef_0 (m : MethodId) (p0 : Int32) (p1 : Int32)  : entryFrame m #[(.int p0), (.int p1)] maxLocals = mkF m 0 #[.val (.int p0), .val (.int p1), .unset, .unset, .unset] [] := by first | (simp [entryFrame, mkF, argsToLocals, Value.category, maxLocals]; done) | rfl
def Q0 (Z : State) (p0 : Int32) (p1 : Int32) (A : Nat → Addr) (h0 : Heap) (n0 : Nat) (v : Option Value) (h : Heap) (L : List Loc) : Prop := v = some (.int 1) ∧ Fr n0 L
set_option maxRecDepth 65536 in
set_option maxHeartbeats 40000000 in
theorem rm0 (l : Launch) (Z : State) (a0 : Array Value) (hw : ∀ d ∈ tables_1, d.before a0 Z = true) (ws : List Jvm.Cond) (p0 : Int32) (p1 : Int32) (A : Nat → Addr) (h0 : Heap) (n0 : Nat) (Z0 : n0 ≤ h0.size) (S0 : Sta Z h0 "com/example/brokerwire/brokerwire/ApiKey" "PRODUCE" "Lcom/example/brokerwire/brokerwire/ApiKey;" (.ref (A 0))) (S1 : Sta Z h0 "com/example/brokerwire/brokerwire/ApiKey" "FETCH" "Lcom/example/brokerwire/brokerwire/ApiKey;" (.ref (A 1))) (S2 : Sta Z h0 "com/example/brokerwire/brokerwire/ApiKey" "LIST_OFFSETS" "Lcom/example/brokerwire/brokerwire/ApiKey;" (.ref (A 2))) (S3 : Sta Z h0 "com/example/brokerwire/brokerwire/ApiKey" "METADATA" "Lcom/example/brokerwire/brokerwire/ApiKey;" (.ref (A 3))) (S4 : Sta Z h0 "com/example/brokerwire/brokerwire/ApiKey" "OFFSET_COMMIT" "Lcom/example/brokerwire/brokerwire/ApiKey;" (.ref (A 4))) (S5 : Sta Z h0 "com/example/brokerwire/brokerwire/ApiKey" "OFFSET_FETCH" "Lcom/example/brokerwire/brokerwire/ApiKey;" (.ref (A 5))) (S6 : Sta Z h0 "com/example/brokerwire/brokerwire/ApiKey" "FIND_COORDINATOR" "Lcom/example/brokerwire/brokerwire/ApiKey;" (.ref (A 6))) (S7 : Sta Z h0 "com/example/brokerwire/brokerwire/ApiKey" "JOIN_GROUP" "Lcom/example/brokerwire/brokerwire/ApiKey;" (.ref (A 7))) (S8 : Sta Z h0 "com/example/brokerwire/brokerwire/ApiKey" "HEARTBEAT" "Lcom/example/brokerwire/brokerwire/ApiKey;" (.ref (A 8))) (S9 : Sta Z h0 "com/example/brokerwire/brokerwire/ApiKey" "LEAVE_GROUP" "Lcom/example/brokerwire/brokerwire/ApiKey;" (.ref (A 9))) (S10 : Sta Z h0 "com/example/brokerwire/brokerwire/ApiKey" "SYNC_GROUP" "Lcom/example/brokerwire/brokerwire/ApiKey;" (.ref (A 10))) (S11 : Sta Z h0 "com/example/brokerwire/brokerwire/ApiKey" "API_VERSIONS" "Lcom/example/brokerwire/brokerwire/ApiKey;" (.ref (A 11))) (S12 : Sta Z h0 "com/example/brokerwire/brokerwire/ApiKey" "CREATE_TOPICS" "Lcom/example/brokerwire/brokerwire/ApiKey;" (.ref (A 12))) (EA : ∀ i, i < 13 → Exa Z h0 (A i) "com/example/brokerwire/brokerwire/ApiKey") (FA : ∀ i, i < 13 → Fld Z h0 (A i) "com/example/brokerwire/brokerwire/ApiKey" "firstFlexibleVersion" "S" (.int (own_ff i))) :
    MetFree l x (head1 (Jvm.Cond.code x code maxLocals ret :: ws) room_1) (fun a U => a = #[(.int p0), (.int p1)] ∧ Z.Warmed39 U.vm ∧ U.heap = h0) (fun _ _ _ _ _ => True) (fun _ U o U' => ∃ v L, o = .returned v ∧ Q0 Z p0 p1 A h0 n0 v U'.heap L ∧ FrameEnd U o U' L room_1.cells room_1.slots) := by
  refine MetFree.of_bodySF (plainFor_of_name pn_0) hisR ?_
  intro p e s m args below meth c s₁ Bd hml0 hP hK
  obtain ⟨rfl, hZ, hh⟩ := hP
  have hx := Bd.exec
  have hby := Bd.bytes
  have hml : c.maxLocals = 5 := hml0
  have hown : s.vm.findClass "com/example/brokerwire/brokerwire/ApiKeyIsFlexiblePinLaw" = some m.cls := findClass_of_methodNamed Bd.named
  have hnm := (name_of_methodNamed Bd.named Bd.method).1
  have X0 : Stand p l e room_1 s m #[(.int p0), (.int p1)] below meth c s₁ [] 0 0 := Stand.of_body Bd
  have e0 : s₁.heap = h0 := by rw [← hh, Bd.state]; rfl
  have N0 := Fr.nil n0
  have pre0 : ∀ t, Steps p.tables e below (s₁.setTop (mkF m 0 #[.val (.int p0), .val (.int p1), .unset, .unset, .unset] [])) t → Steps p.tables e below (s₁.setTop (entryFrame m #[(.int p0), (.int p1)] maxLocals)) t := fun t k => castTop (ef_0 m p0 p1) k
  show Done p e below _ _
  refine Done.of ?_ pre0
  have hnz6_1 : (13 : Int32) ≠ (0 : Int32) := by decide
  obtain ⟨v2, ev2⟩ : ∃ z : Int32, z = ((p0 &&& (2147483647 : Int32)) % (13 : Int32)) := ⟨_, rfl⟩
  obtain ⟨v3, ev3⟩ : ∃ z : Int32, z = (p1.toInt16.toInt32) := ⟨_, rfl⟩
  obtain ⟨_, _, ⟨T4, L4, k4, n4⟩, -, X4, ⟨Lc4, hQ4, l4, y4, z4⟩, st4⟩ := Jvm.LawKit.callS X0 hx (y := (⟨"com/example/brokerwire/brokerwire/ApiKeyIsFlexiblePinLaw", "firstFlexible", "(I)I"⟩ : MethodName)) hown (mvT hZ (hw _ (List.mem_of_getElem? (i := 1) rfl))) (mvT hZ (hw _ (List.mem_of_getElem? (i := 2) rfl))) (mvT hZ (hw _ (List.mem_of_getElem? (i := 3) rfl))) (mvT hZ (hw _ (List.mem_of_getElem? (i := 4) rfl))) (by decide) (backOf (W := 1) (rm1 l Z a0 hw [] v2 h0 n0 Z0 (own_idx2 ev2).1 (own_idx2 ev2).2) hZ (hw _ (List.mem_of_getElem? (i := 4) rfl)) (hw _ (List.mem_of_getElem? (i := 3) rfl)) (by decide) (by decide)) (g := (mkF m 13 #[.val (.int p0), .val (.int p1), .val (.int v2), .val (.int v3), .unset] [(.int v2), (.int v3)])) rfl (by rw [hml]; rfl) (argsL := [(.int v2)]) (rest := [(.int v3)]) (lenOf pd_0 rfl) rfl (by show 2 * 0 + _ ≤ _; exact Nat.le_of_eq rfl) (hb hby at_13) (fun _ _ => ⟨rfl, e0, (by decide : 0 + 0 ≤ _), (by decide : 0 + 0 ≤ _)⟩)
  dsimp only [Pt.U, Pt.locs, Pt.cells, Pt.slots] at X4 l4 y4 z4 st4 hQ4
  subst l4 y4 z4
  obtain ⟨nj4, rfl, N4q, e4, lt4, eq4⟩ := hQ4
  have N4 := Fr.app N0 N4q
  have J16_5 : ∀ wj : Int32, wj = (if v3 < (own_ff nj4) then (0 : Int32) else (1 : Int32)) → ∀ target, Steps p.tables e below (T4.setTop (mkF m 24 #[.val (.int p0), .val (.int p1), .val (.int v2), .val (.int v3), .unset] [(.int wj)])) target → Steps p.tables e below (T4.setTop (mkF m 16 #[.val (.int p0), .val (.int p1), .val (.int v2), .val (.int v3), .unset] [(.int (own_ff nj4)), (.int v3)])) target := by
    intro wj hw0 target kt
    by_cases hj16 : v3 < (own_ff nj4)
    · rw [if_pos hj16] at hw0
      show Steps p.tables e below (T4.setTop (mkF m 16 #[.val (.int p0), .val (.int p1), .val (.int v2), .val (.int v3), .unset] [(.int (own_ff nj4)), (.int v3)])) _
      refine XS.icmpYes X4.here hx rfl (pc0 := 16) (pc' := 23) rfl (hb hby at_16) rfl (tlt hj16).1 (by decide) (by decide) ?_
      show Steps p.tables e below (T4.setTop (mkF m 23 #[.val (.int p0), .val (.int p1), .val (.int v2), .val (.int v3), .unset] [])) _
      refine XS.iconst X4.here hx rfl (hb hby at_23) ?_
      rw [hw0] at kt
      exact kt
    · rw [if_neg hj16] at hw0
      show Steps p.tables e below (T4.setTop (mkF m 16 #[.val (.int p0), .val (.int p1), .val (.int v2), .val (.int v3), .unset] [(.int (own_ff nj4)), (.int v3)])) _
      refine XS.icmpNo X4.here hx rfl (hb hby at_16) rfl (flt hj16).1 ?_
      show Steps p.tables e below (T4.setTop (mkF m 19 #[.val (.int p0), .val (.int p1), .val (.int v2), .val (.int v3), .unset] [])) _
      refine XS.iconst X4.here hx rfl (hb hby at_19) ?_
      show Steps p.tables e below (T4.setTop (mkF m 20 #[.val (.int p0), .val (.int p1), .val (.int v2), .val (.int v3), .unset] [(.int (1 : Int32))])) _
      refine XS.goto X4.here hx rfl (pc0 := 20) (pc' := 24) rfl (hb hby at_20) (by decide) (by decide) ?_
      rw [hw0] at kt
      exact kt
  obtain ⟨_, _, ⟨T6, L6, k6, n6⟩, -, X6, ⟨Lc6, hQ6, l6, y6, z6⟩, st6⟩ := Jvm.LawKit.callS X4 hx (y := (⟨"com/example/brokerwire/brokerwire/ApiKeyIsFlexiblePinLaw", "api", "(I)Lcom/example/brokerwire/brokerwire/ApiKey;"⟩ : MethodName)) hown (mvT hZ (hw _ (List.mem_of_getElem? (i := 5) rfl))) (mvT hZ (hw _ (List.mem_of_getElem? (i := 6) rfl))) (mvT hZ (hw _ (List.mem_of_getElem? (i := 3) rfl))) (mvT hZ (hw _ (List.mem_of_getElem? (i := 7) rfl))) (by decide) (backOf (W := 0) (rm2 l Z a0 hw [] v2 A h0 n0 Z0 (own_idx2 ev2).1 (own_idx2 ev2).2 S0 S1 S2 S3 S4 S5 S6 S7 S8 S9 S10 S11 S12) hZ (hw _ (List.mem_of_getElem? (i := 7) rfl)) (hw _ (List.mem_of_getElem? (i := 3) rfl)) (by decide) (by decide)) (g := (mkF m 27 #[.val (.int p0), .val (.int p1), .val (.int v2), .val (.int v3), .val (.int (if v3 < (own_ff nj4) then (0 : Int32) else (1 : Int32)))] [(.int v2)])) rfl (by rw [hml]; rfl) (argsL := [(.int v2)]) (rest := []) (lenOf pd_1 rfl) rfl (by show 2 * 0 + _ ≤ _; exact Nat.le_of_eq rfl) (hb hby at_27) (fun _ _ => ⟨rfl, e4, (by decide : 0 + 0 ≤ _), (by decide : 0 + 0 ≤ _)⟩)
  dsimp only [Pt.U, Pt.locs, Pt.cells, Pt.slots] at X6 l6 y6 z6 st6 hQ6
  subst l6 y6 z6
  obtain ⟨nj6, rfl, N6q, e6, lt6, eq6⟩ := hQ6
  have N6 := Fr.app N4 N6q
  obtain ⟨cq7, kq7, q7a, q7b, q7c⟩ := isOf hZ e6 (EA nj6 lt6)
  obtain ⟨_, _, ⟨T7, L7, k7, n7⟩, -, X7, ⟨Lc7, hQ7, l7, y7, z7⟩, st7⟩ := X6.virtualBack hx (y := (⟨"com/example/brokerwire/brokerwire/ApiKey", "isFlexible", "(S)Z"⟩ : MethodName)) (z := (⟨"com/example/brokerwire/brokerwire/ApiKey", "isFlexible", "(S)Z"⟩ : MethodName)) hown (mvT hZ (hw _ (List.mem_of_getElem? (i := 11) rfl))) (mvT hZ (hw _ (List.mem_of_getElem? (i := 12) rfl))) (notFace_of_selects (args := #[]) (mvT hZ (hw _ (List.mem_of_getElem? (i := 14) rfl)))) (mvT hZ (hw _ (List.mem_of_getElem? (i := 14) rfl))) (mvT hZ (hw _ (List.mem_of_getElem? (i := 13) rfl))) (by decide) (backOf (W := 0) (rm3 l Z a0 hw [] (A nj6) v3 (own_ff nj6) h0 n0 Z0 (FA nj6 lt6)) hZ (hw _ (List.mem_of_getElem? (i := 15) rfl)) (hw _ (List.mem_of_getElem? (i := 9) rfl)) (by decide) (by decide)) q7a q7c (g := (mkF m 31 #[.val (.int p0), .val (.int p1), .val (.int v2), .val (.int v3), .val (.int (if v3 < (own_ff nj4) then (0 : Int32) else (1 : Int32)))] [(.int v3), (.ref (A nj6))])) rfl (by rw [hml]; rfl) (Steps.refl _) (argsL := [(.int v3)]) (rest := []) (lenOf pd_2 rfl) rfl (by show 2 * 0 + _ ≤ _; exact Nat.le_of_eq rfl) (hb hby at_31) (fun _ _ => ⟨rfl, e6, (by decide : 0 + 0 ≤ _), (by decide : 0 + 0 ≤ _)⟩)
  dsimp only [Pt.U, Pt.locs, Pt.cells, Pt.slots] at X7 l7 y7 z7 st7 hQ7
  subst l7 y7 z7
  obtain ⟨rfl, N7q, e7⟩ := hQ7
  have N7 := Fr.app N6 N7q
  have J36_8 : ∀ wj : Int32, wj = (if (if v3 < (own_ff nj6) then (0 : Int32) else (1 : Int32)) = (if v3 < (own_ff nj4) then (0 : Int32) else (1 : Int32)) then (1 : Int32) else (0 : Int32)) → ∀ target, Steps p.tables e below (T7.setTop (mkF m 44 #[.val (.int p0), .val (.int p1), .val (.int v2), .val (.int v3), .val (.int (if v3 < (own_ff nj4) then (0 : Int32) else (1 : Int32)))] [(.int wj)])) target → Steps p.tables e below (T7.setTop (mkF m 36 #[.val (.int p0), .val (.int p1), .val (.int v2), .val (.int v3), .val (.int (if v3 < (own_ff nj4) then (0 : Int32) else (1 : Int32)))] [(.int (if v3 < (own_ff nj4) then (0 : Int32) else (1 : Int32))), (.int (if v3 < (own_ff nj6) then (0 : Int32) else (1 : Int32)))])) target := by
    intro wj hw0 target kt
    by_cases hj36 : (if v3 < (own_ff nj6) then (0 : Int32) else (1 : Int32)) = (if v3 < (own_ff nj4) then (0 : Int32) else (1 : Int32))
    · rw [if_pos hj36] at hw0
      show Steps p.tables e below (T7.setTop (mkF m 36 #[.val (.int p0), .val (.int p1), .val (.int v2), .val (.int v3), .val (.int (if v3 < (own_ff nj4) then (0 : Int32) else (1 : Int32)))] [(.int (if v3 < (own_ff nj4) then (0 : Int32) else (1 : Int32))), (.int (if v3 < (own_ff nj6) then (0 : Int32) else (1 : Int32)))])) _
      refine XS.icmpNo X7.here hx rfl (hb hby at_36) rfl (teq hj36).2 ?_
      show Steps p.tables e below (T7.setTop (mkF m 39 #[.val (.int p0), .val (.int p1), .val (.int v2), .val (.int v3), .val (.int (if v3 < (own_ff nj4) then (0 : Int32) else (1 : Int32)))] [])) _
      refine XS.iconst X7.here hx rfl (hb hby at_39) ?_
      show Steps p.tables e below (T7.setTop (mkF m 40 #[.val (.int p0), .val (.int p1), .val (.int v2), .val (.int v3), .val (.int (if v3 < (own_ff nj4) then (0 : Int32) else (1 : Int32)))] [(.int (1 : Int32))])) _
      refine XS.goto X7.here hx rfl (pc0 := 40) (pc' := 44) rfl (hb hby at_40) (by decide) (by decide) ?_
      rw [hw0] at kt
      exact kt
    · rw [if_neg hj36] at hw0
      show Steps p.tables e below (T7.setTop (mkF m 36 #[.val (.int p0), .val (.int p1), .val (.int v2), .val (.int v3), .val (.int (if v3 < (own_ff nj4) then (0 : Int32) else (1 : Int32)))] [(.int (if v3 < (own_ff nj4) then (0 : Int32) else (1 : Int32))), (.int (if v3 < (own_ff nj6) then (0 : Int32) else (1 : Int32)))])) _
      refine XS.icmpYes X7.here hx rfl (pc0 := 36) (pc' := 43) rfl (hb hby at_36) rfl (feq hj36).2 (by decide) (by decide) ?_
      show Steps p.tables e below (T7.setTop (mkF m 43 #[.val (.int p0), .val (.int p1), .val (.int v2), .val (.int v3), .val (.int (if v3 < (own_ff nj4) then (0 : Int32) else (1 : Int32)))] [])) _
      refine XS.iconst X7.here hx rfl (hb hby at_43) ?_
      rw [hw0] at kt
      exact kt
  obtain ⟨fs, hr, hrun, hended, hW, hsame⟩ := X7.leave (v := some (.int (nar .boolean (if (if v3 < (own_ff nj6) then (0 : Int32) else (1 : Int32)) = (if v3 < (own_ff nj4) then (0 : Int32) else (1 : Int32)) then (1 : Int32) else (0 : Int32))))) (fun h => by rw [Bd.returns] at h; cases h)
  refine ⟨_, _, ?_, hrun, hended, _, _, rfl, ?_, ⟨_, rfl⟩, hW, hsame.mono (by decide) (by decide)⟩
  · show Steps p.tables e below (s₁.setTop (mkF m 0 #[.val (.int p0), .val (.int p1), .unset, .unset, .unset] [])) _
    refine XS.iloadN X0.here hx rfl (hb hby at_0) rfl ?_
    show Steps p.tables e below (s₁.setTop (mkF m 1 #[.val (.int p0), .val (.int p1), .unset, .unset, .unset] [(.int p0)])) _
    refine X0.ldcInt hx hown (mvT hZ (hw _ (List.mem_of_getElem? (i := 0) rfl))) (g := (mkF m 1 #[.val (.int p0), .val (.int p1), .unset, .unset, .unset] [(.int p0)])) rfl (hb hby at_1) _ ?_
    show Steps p.tables e below (s₁.setTop (mkF m 3 #[.val (.int p0), .val (.int p1), .unset, .unset, .unset] [(.int (2147483647 : Int32)), (.int p0)])) _
    refine XS.iand X0.here hx rfl (hb hby at_3) rfl ?_
    show Steps p.tables e below (s₁.setTop (mkF m 4 #[.val (.int p0), .val (.int p1), .unset, .unset, .unset] [(.int (p0 &&& (2147483647 : Int32)))])) _
    refine XS.bipush X0.here hx rfl (hb hby at_4) ?_
    show Steps p.tables e below (s₁.setTop (mkF m 6 #[.val (.int p0), .val (.int p1), .unset, .unset, .unset] [(.int (13 : Int32)), (.int (p0 &&& (2147483647 : Int32)))])) _
    refine Jvm.RoadKit.iremM X0 hx rfl (hb hby at_6) rfl hnz6_1 ?_
    show Steps p.tables e below (s₁.setTop (mkF m 7 #[.val (.int p0), .val (.int p1), .unset, .unset, .unset] [(.int ((p0 &&& (2147483647 : Int32)) % (13 : Int32)))])) _
    rw [← ev2]
    show Steps p.tables e below (s₁.setTop (mkF m 7 #[.val (.int p0), .val (.int p1), .unset, .unset, .unset] [(.int v2)])) _
    refine XS.istoreN X0.here hx rfl (hb hby at_7) rfl (l' := #[.val (.int p0), .val (.int p1), .val (.int v2), .unset, .unset]) rfl ?_
    show Steps p.tables e below (s₁.setTop (mkF m 8 #[.val (.int p0), .val (.int p1), .val (.int v2), .unset, .unset] [])) _
    refine XS.iloadN X0.here hx rfl (hb hby at_8) rfl ?_
    show Steps p.tables e below (s₁.setTop (mkF m 9 #[.val (.int p0), .val (.int p1), .val (.int v2), .unset, .unset] [(.int p1)])) _
    refine XS.i2s X0.here hx rfl (hb hby at_9) rfl ?_
    show Steps p.tables e below (s₁.setTop (mkF m 10 #[.val (.int p0), .val (.int p1), .val (.int v2), .unset, .unset] [(.int (p1.toInt16.toInt32))])) _
    rw [← ev3]
    show Steps p.tables e below (s₁.setTop (mkF m 10 #[.val (.int p0), .val (.int p1), .val (.int v2), .unset, .unset] [(.int v3)])) _
    refine XS.istoreN X0.here hx rfl (hb hby at_10) rfl (l' := #[.val (.int p0), .val (.int p1), .val (.int v2), .val (.int v3), .unset]) rfl ?_
    show Steps p.tables e below (s₁.setTop (mkF m 11 #[.val (.int p0), .val (.int p1), .val (.int v2), .val (.int v3), .unset] [])) _
    refine XS.iloadN X0.here hx rfl (hb hby at_11) rfl ?_
    show Steps p.tables e below (s₁.setTop (mkF m 12 #[.val (.int p0), .val (.int p1), .val (.int v2), .val (.int v3), .unset] [(.int v3)])) _
    refine XS.iloadN X0.here hx rfl (hb hby at_12) rfl ?_
    show Steps p.tables e below (s₁.setTop (mkF m 13 #[.val (.int p0), .val (.int p1), .val (.int v2), .val (.int v3), .unset] [(.int v2), (.int v3)])) _
    refine st4 _ ?_
    show Steps p.tables e below (T4.setTop (mkF m 16 #[.val (.int p0), .val (.int p1), .val (.int v2), .val (.int v3), .unset] [(.int (own_ff nj4)), (.int v3)])) _
    refine J16_5 _ rfl _ ?_
    show Steps p.tables e below (T4.setTop (mkF m 24 #[.val (.int p0), .val (.int p1), .val (.int v2), .val (.int v3), .unset] [(.int (if v3 < (own_ff nj4) then (0 : Int32) else (1 : Int32)))])) _
    refine XS.istore X4.here hx rfl (hb hby at_24) rfl (l' := #[.val (.int p0), .val (.int p1), .val (.int v2), .val (.int v3), .val (.int (if v3 < (own_ff nj4) then (0 : Int32) else (1 : Int32)))]) rfl ?_
    show Steps p.tables e below (T4.setTop (mkF m 26 #[.val (.int p0), .val (.int p1), .val (.int v2), .val (.int v3), .val (.int (if v3 < (own_ff nj4) then (0 : Int32) else (1 : Int32)))] [])) _
    refine XS.iloadN X4.here hx rfl (hb hby at_26) rfl ?_
    show Steps p.tables e below (T4.setTop (mkF m 27 #[.val (.int p0), .val (.int p1), .val (.int v2), .val (.int v3), .val (.int (if v3 < (own_ff nj4) then (0 : Int32) else (1 : Int32)))] [(.int v2)])) _
    refine st6 _ ?_
    show Steps p.tables e below (T6.setTop (mkF m 30 #[.val (.int p0), .val (.int p1), .val (.int v2), .val (.int v3), .val (.int (if v3 < (own_ff nj4) then (0 : Int32) else (1 : Int32)))] [(.ref (A nj6))])) _
    refine XS.iloadN X6.here hx rfl (hb hby at_30) rfl ?_
    show Steps p.tables e below (T6.setTop (mkF m 31 #[.val (.int p0), .val (.int p1), .val (.int v2), .val (.int v3), .val (.int (if v3 < (own_ff nj4) then (0 : Int32) else (1 : Int32)))] [(.int v3), (.ref (A nj6))])) _
    refine st7.trans ?_
    show Steps p.tables e below (T7.setTop (mkF m 34 #[.val (.int p0), .val (.int p1), .val (.int v2), .val (.int v3), .val (.int (if v3 < (own_ff nj4) then (0 : Int32) else (1 : Int32)))] [(.int (if v3 < (own_ff nj6) then (0 : Int32) else (1 : Int32)))])) _
    refine XS.iload X7.here hx rfl (hb hby at_34) rfl ?_
    show Steps p.tables e below (T7.setTop (mkF m 36 #[.val (.int p0), .val (.int p1), .val (.int v2), .val (.int v3), .val (.int (if v3 < (own_ff nj4) then (0 : Int32) else (1 : Int32)))] [(.int (if v3 < (own_ff nj4) then (0 : Int32) else (1 : Int32))), (.int (if v3 < (own_ff nj6) then (0 : Int32) else (1 : Int32)))])) _
    refine J36_8 _ rfl _ ?_
    show Steps p.tables e below (T7.setTop (mkF m 44 #[.val (.int p0), .val (.int p1), .val (.int v2), .val (.int v3), .val (.int (if v3 < (own_ff nj4) then (0 : Int32) else (1 : Int32)))] [(.int (if (if v3 < (own_ff nj6) then (0 : Int32) else (1 : Int32)) = (if v3 < (own_ff nj4) then (0 : Int32) else (1 : Int32)) then (1 : Int32) else (0 : Int32)))])) _
    exact retN X7 hx (t := .boolean) Bd.returns (by simp) (hb hby at_44) hr
  · show Q0 Z p0 p1 A h0 n0 _ T7.heap _
    rw [e7]
    have hh : nj4 = nj6 := by omega
    refine ⟨?_, N7⟩
    rw [hh]
    simp [nar]
set_option maxRecDepth 65536 in
set_option maxHeartbeats 40000000 in
theorem comes_1 {Post : Tables → Env → Array Value → State → Outcome → State → Prop} (hpost : ∀ tb e args s v u, (limb_1_1.after args s (.returned v) u = true ∧ limb_1_2.after args s (.returned v) u = true ∧ True) → FrameEnd s (.returned v) u (Jvm.fieldLocs frame_1_writes args s ++ Jvm.arrayLocs frame_1_arrays args s ++ Jvm.staticLocs frame_1_statics s) 0 0 → Post tb e args s (.returned v) u) :
    ArmFor flags0 classFile x code maxLocals ret World_1 tables_1 room_1 Calls_1 rest_1 Pre_1 Post := by
  intro l hfl _ _ p e ha hc hk s m args below hf hA hF happ hP
  obtain ⟨hcalls, hrest, hpre⟩ := hP
  obtain ⟨-, -, -, hnamed, -, -, -, hat⟩ := (Spec.applies_iff hf).mp happ
  obtain ⟨hg, hn⟩ := and_e (Cond.before_iff.mp (show (Jvm.Cond.and given_1 narrow_1).before args s = true from hpre))
  obtain ⟨g1, g2⟩ := and_e hg
  obtain ⟨g3, g4⟩ := and_e g2
  obtain ⟨w0, w1, rfl⟩ : ∃ w0 w1 : Value, args = #[w0, w1] := by
    have hs : args.size = 2 := by simpa [Cond.value, given_1] using g1
    obtain ⟨L⟩ := args
    match L, hs with
    | [w0, w1], _ => exact ⟨w0, w1, rfl⟩
  have hw := fun d (hd : d ∈ tables_1) => atoms_spec (ws := Jvm.Cond.code x code maxLocals ret :: tables_1) hat d (List.mem_cons_of_mem _ hd)
  have hfit : Fit s := fun {y c} hc i hi => by
    obtain ⟨ha, rfl⟩ := Array.getElem?_eq_some_iff.mp hc
    have q := List.all_eq_true.mp ((Array.all_eq_true_iff_forall_mem.mp hF) _ (Array.getElem_mem ha)) i (List.mem_range.mpr hi)
    simpa [Array.getElem?_eq_getElem hi] using q
  obtain ⟨i0, ei0⟩ := is_v g3
  obtain rfl : w0 = (.int i0) := Option.some.inj ei0
  obtain ⟨i1, ei1⟩ := is_v g4
  obtain rfl : w1 = (.int i1) := Option.some.inj ei1
  obtain ⟨nr0, hn⟩ := and_e hn
  obtain ⟨x0, ex0⟩ := exa_v nr0
  have EE0 := Exa.start ex0 nr0
  have SS0 := Sta.start ex0 (Or.inr ⟨(hw _ (List.mem_of_getElem? (i := 9) rfl)), (hw _ (List.mem_of_getElem? (i := 10) rfl))⟩)
  obtain ⟨nr1, hn⟩ := and_e hn
  have FF0_firstFlexibleVersion := Fld.start ((fld_at ex0).symm.trans (own_eqint nr1))
  obtain ⟨nr2, hn⟩ := and_e hn
  obtain ⟨x1, ex1⟩ := exa_v nr2
  have EE1 := Exa.start ex1 nr2
  have SS1 := Sta.start ex1 (Or.inr ⟨(hw _ (List.mem_of_getElem? (i := 9) rfl)), (hw _ (List.mem_of_getElem? (i := 19) rfl))⟩)
  obtain ⟨nr3, hn⟩ := and_e hn
  have FF1_firstFlexibleVersion := Fld.start ((fld_at ex1).symm.trans (own_eqint nr3))
  obtain ⟨nr4, hn⟩ := and_e hn
  obtain ⟨x2, ex2⟩ := exa_v nr4
  have EE2 := Exa.start ex2 nr4
  have SS2 := Sta.start ex2 (Or.inr ⟨(hw _ (List.mem_of_getElem? (i := 9) rfl)), (hw _ (List.mem_of_getElem? (i := 21) rfl))⟩)
  obtain ⟨nr5, hn⟩ := and_e hn
  have FF2_firstFlexibleVersion := Fld.start ((fld_at ex2).symm.trans (own_eqint nr5))
  obtain ⟨nr6, hn⟩ := and_e hn
  obtain ⟨x3, ex3⟩ := exa_v nr6
  have EE3 := Exa.start ex3 nr6
  have SS3 := Sta.start ex3 (Or.inr ⟨(hw _ (List.mem_of_getElem? (i := 9) rfl)), (hw _ (List.mem_of_getElem? (i := 23) rfl))⟩)
  obtain ⟨nr7, hn⟩ := and_e hn
  have FF3_firstFlexibleVersion := Fld.start ((fld_at ex3).symm.trans (own_eqint nr7))
  obtain ⟨nr8, hn⟩ := and_e hn
  obtain ⟨x4, ex4⟩ := exa_v nr8
  have EE4 := Exa.start ex4 nr8
  have SS4 := Sta.start ex4 (Or.inr ⟨(hw _ (List.mem_of_getElem? (i := 9) rfl)), (hw _ (List.mem_of_getElem? (i := 25) rfl))⟩)
  obtain ⟨nr9, hn⟩ := and_e hn
  have FF4_firstFlexibleVersion := Fld.start ((fld_at ex4).symm.trans (own_eqint nr9))
  obtain ⟨nr10, hn⟩ := and_e hn
  obtain ⟨x5, ex5⟩ := exa_v nr10
  have EE5 := Exa.start ex5 nr10
  have SS5 := Sta.start ex5 (Or.inr ⟨(hw _ (List.mem_of_getElem? (i := 9) rfl)), (hw _ (List.mem_of_getElem? (i := 27) rfl))⟩)
  obtain ⟨nr11, hn⟩ := and_e hn
  have FF5_firstFlexibleVersion := Fld.start ((fld_at ex5).symm.trans (own_eqint nr11))
  obtain ⟨nr12, hn⟩ := and_e hn
  obtain ⟨x6, ex6⟩ := exa_v nr12
  have EE6 := Exa.start ex6 nr12
  have SS6 := Sta.start ex6 (Or.inr ⟨(hw _ (List.mem_of_getElem? (i := 9) rfl)), (hw _ (List.mem_of_getElem? (i := 29) rfl))⟩)
  obtain ⟨nr13, hn⟩ := and_e hn
  have FF6_firstFlexibleVersion := Fld.start ((fld_at ex6).symm.trans (own_eqint nr13))
  obtain ⟨nr14, hn⟩ := and_e hn
  obtain ⟨x7, ex7⟩ := exa_v nr14
  have EE7 := Exa.start ex7 nr14
  have SS7 := Sta.start ex7 (Or.inr ⟨(hw _ (List.mem_of_getElem? (i := 9) rfl)), (hw _ (List.mem_of_getElem? (i := 31) rfl))⟩)
  obtain ⟨nr15, hn⟩ := and_e hn
  have FF7_firstFlexibleVersion := Fld.start ((fld_at ex7).symm.trans (own_eqint nr15))
  obtain ⟨nr16, hn⟩ := and_e hn
  obtain ⟨x8, ex8⟩ := exa_v nr16
  have EE8 := Exa.start ex8 nr16
  have SS8 := Sta.start ex8 (Or.inr ⟨(hw _ (List.mem_of_getElem? (i := 9) rfl)), (hw _ (List.mem_of_getElem? (i := 33) rfl))⟩)
  obtain ⟨nr17, hn⟩ := and_e hn
  have FF8_firstFlexibleVersion := Fld.start ((fld_at ex8).symm.trans (own_eqint nr17))
  obtain ⟨nr18, hn⟩ := and_e hn
  obtain ⟨x9, ex9⟩ := exa_v nr18
  have EE9 := Exa.start ex9 nr18
  have SS9 := Sta.start ex9 (Or.inr ⟨(hw _ (List.mem_of_getElem? (i := 9) rfl)), (hw _ (List.mem_of_getElem? (i := 35) rfl))⟩)
  obtain ⟨nr19, hn⟩ := and_e hn
  have FF9_firstFlexibleVersion := Fld.start ((fld_at ex9).symm.trans (own_eqint nr19))
  obtain ⟨nr20, hn⟩ := and_e hn
  obtain ⟨x10, ex10⟩ := exa_v nr20
  have EE10 := Exa.start ex10 nr20
  have SS10 := Sta.start ex10 (Or.inr ⟨(hw _ (List.mem_of_getElem? (i := 9) rfl)), (hw _ (List.mem_of_getElem? (i := 37) rfl))⟩)
  obtain ⟨nr21, hn⟩ := and_e hn
  have FF10_firstFlexibleVersion := Fld.start ((fld_at ex10).symm.trans (own_eqint nr21))
  obtain ⟨nr22, hn⟩ := and_e hn
  obtain ⟨x11, ex11⟩ := exa_v nr22
  have EE11 := Exa.start ex11 nr22
  have SS11 := Sta.start ex11 (Or.inr ⟨(hw _ (List.mem_of_getElem? (i := 9) rfl)), (hw _ (List.mem_of_getElem? (i := 39) rfl))⟩)
  obtain ⟨nr23, hn⟩ := and_e hn
  have FF11_firstFlexibleVersion := Fld.start ((fld_at ex11).symm.trans (own_eqint nr23))
  obtain ⟨nr24, hn⟩ := and_e hn
  obtain ⟨x12, ex12⟩ := exa_v nr24
  have EE12 := Exa.start ex12 nr24
  have SS12 := Sta.start ex12 (Or.inr ⟨(hw _ (List.mem_of_getElem? (i := 9) rfl)), (hw _ (List.mem_of_getElem? (i := 41) rfl))⟩)
  have FF12_firstFlexibleVersion := Fld.start ((fld_at ex12).symm.trans (own_eqint hn))
  let A : Nat → Addr := fun i => [x0, x1, x9, x3, x2, x5, x6, x12, x7, x4, x10, x11, x8].getD i 0
  have EA : ∀ i, i < 13 → Exa s s.heap (A i) "com/example/brokerwire/brokerwire/ApiKey" := by
    intro i hi
    match i, hi with
    | 0, _ => exact EE0
    | 1, _ => exact EE1
    | 2, _ => exact EE9
    | 3, _ => exact EE3
    | 4, _ => exact EE2
    | 5, _ => exact EE5
    | 6, _ => exact EE6
    | 7, _ => exact EE12
    | 8, _ => exact EE7
    | 9, _ => exact EE4
    | 10, _ => exact EE10
    | 11, _ => exact EE11
    | 12, _ => exact EE8
    | n + 13, q => exact absurd q (by omega)
  have FA : ∀ i, i < 13 → Fld s s.heap (A i) "com/example/brokerwire/brokerwire/ApiKey" "firstFlexibleVersion" "S" (.int (own_ff i)) := by
    intro i hi
    match i, hi with
    | 0, _ => exact FF0_firstFlexibleVersion
    | 1, _ => exact FF1_firstFlexibleVersion
    | 2, _ => exact FF9_firstFlexibleVersion
    | 3, _ => exact FF3_firstFlexibleVersion
    | 4, _ => exact FF2_firstFlexibleVersion
    | 5, _ => exact FF5_firstFlexibleVersion
    | 6, _ => exact FF6_firstFlexibleVersion
    | 7, _ => exact FF12_firstFlexibleVersion
    | 8, _ => exact FF7_firstFlexibleVersion
    | 9, _ => exact FF4_firstFlexibleVersion
    | 10, _ => exact FF10_firstFlexibleVersion
    | 11, _ => exact FF11_firstFlexibleVersion
    | 12, _ => exact FF8_firstFlexibleVersion
    | n + 13, q => exact absurd q (by omega)
  obtain ⟨n, o, h1, h2, h3, _, L, rfl, ⟨rfl, N⟩, hq⟩ := rm0 l s _ hw tables_1 i0 i1 A s.heap s.heap.size (Nat.le_refl _) SS0 SS1 SS9 SS3 SS2 SS5 SS6 SS12 SS7 SS4 SS10 SS11 SS8 EA FA p e ha hc hk s m _ below hf ((Spec.applies_iff_loose hf).mp happ).1 ⟨rfl, State.Warmed39.refl s, rfl⟩ trivial
  refine ⟨n, _, h1, h2, h3, hpost _ _ _ _ _ _ ⟨Cond.after_iff.mpr rfl, Cond.after_iff.mpr (eq_i res_at (Term.int_eval (1)) rfl), trivial⟩ ⟨hq.1, hq.2.1, (hq.2.2.sift fun y hy => Or.inr (N y hy)).mono (by decide) (by decide)⟩⟩
theorem main_1_1 : Claimed_1_1 := comes_1 fun _ _ _ _ _ _ h hF => ⟨h.1, hF⟩
theorem main_1_2 : Claimed_1_2 := comes_1 fun _ _ _ _ _ _ h hF => ⟨h.2.1, hF⟩
end Jvm.Pilot.@@N@@
namespace Jvm.Pilot.@@N@@
open Jvm Jvm.ClassFile Sem Op Lib Jvm.Free Jvm.Stand Jvm.Pilot.@@N@@.Jvm.D
/-! MADE BY PROGRAM (witnessworld.py) out of the Statement's table words and the real class files: 12 classes; the members and pool entries that the words name. The judged class is class 1, her method 3. -/
namespace start1
open Jvm.ClassFile
def u (s : String) : CpInfo := .utf8 (stringToUtf16 s)
/-- a pool by its gaps: so many unusable entries, then the entry; so many at the end -/
def gap : Nat → List CpInfo → List CpInfo
  | 0, r => r
  | n + 1, r => .unusable :: gap n r
def poolList (es : List (Nat × CpInfo)) (last : Nat) : List CpInfo := es.foldr (fun e r => gap e.1 (e.2 :: r)) (gap last [])
def pool (es : List (Nat × CpInfo)) (last : Nat) : Array CpInfo := ⟨poolList es last⟩
def fileOf (pool : Array CpInfo) (this : Nat) (attrs : Array Attribute := #[]) (ms : Array MethodInfo := #[]) (fl : Nat := 33) (sup : Nat := 0) (ifs : Array Nat := #[]) (fds : Array FieldInfo := #[]) : ClassFile where
  minorVersion := 0
  majorVersion := 65
  constantPool := pool
  accessFlags := fl
  thisClass := this
  superClass := sup
  interfaces := ifs
  fields := fds
  methods := ms
  attributes := attrs
def plain (name : String) (sup : Option ClassId) : Class where
  name := name
  kind := .ordinary
  loader := none
  accessFlags := 33
  super := sup
  interfaces := #[]
  cf := none
  fields := #[]
  methods := #[]
  instanceTypes := #[]
  staticTypes := #[]
  resolved := #[]
  callSites := []
  init := .initialized
  statics := none
  mirror := none

def pool0 : Array CpInfo := pool [(5, u "<init>"), (0, u "()V"), (1, .class_ 10), (1, u "java/lang/Object")] 113

def k0m0 : Method := { name := "<init>", desc := "()V", sig := { parameters := [], returnType := none }, accessFlags := 1, code := none }
/-- java/lang/Object -/
def k0 : Class := { plain "java/lang/Object" none with
  accessFlags := 33
  interfaces := #[]
  cf := some (fileOf pool0 8 #[] #[{ accessFlags := 1, nameIndex := 5, descriptorIndex := 6, attributes := #[] }] 33 0 #[] #[])
  fields := #[]
  methods := #[k0m0]
  instanceTypes := #[]
  staticTypes := #[]
  resolved := Array.replicate 124 none
  statics := none }

def pool1 : Array CpInfo := pool [(2, .class_ 4), (1, u "java/lang/Object"), (0, u "<init>"), (0, u "()V"), (0, .fieldref 8 9), (0, .class_ 10), (0, .nameAndType 11 12), (0, u "com/example/brokerwire/brokerwire/ApiKey"), (0, u "PRODUCE"), (0, u "Lcom/example/brokerwire/brokerwire/ApiKey;"), (0, .fieldref 8 14), (0, .nameAndType 15 12), (0, u "FETCH"), (0, .fieldref 8 17), (0, .nameAndType 18 12), (0, u "LIST_OFFSETS"), (0, .fieldref 8 20), (0, .nameAndType 21 12), (0, u "METADATA"), (0, .fieldref 8 23), (0, .nameAndType 24 12), (0, u "OFFSET_COMMIT"), (0, .fieldref 8 26), (0, .nameAndType 27 12), (0, u "OFFSET_FETCH"), (0, .fieldref 8 29), (0, .nameAndType 30 12), (0, u "FIND_COORDINATOR"), (0, .fieldref 8 32), (0, .nameAndType 33 12), (0, u "JOIN_GROUP"), (0, .fieldref 8 35), (0, .nameAndType 36 12), (0, u "HEARTBEAT"), (0, .fieldref 8 38), (0, .nameAndType 39 12), (0, u "LEAVE_GROUP"), (0, .fieldref 8 41), (0, .nameAndType 42 12), (0, u "SYNC_GROUP"), (0, .fieldref 8 44), (0, .nameAndType 45 12), (0, u "API_VERSIONS"), (0, .fieldref 8 47), (0, .nameAndType 48 12), (0, u "CREATE_TOPICS"), (0, .integer 2147483647), (0, .methodref 51 52), (0, .class_ 53), (0, .nameAndType 54 55), (0, u "com/example/brokerwire/brokerwire/ApiKeyIsFlexiblePinLaw"), (0, u "firstFlexible"), (0, u "(I)I"), (0, .methodref 51 57), (0, .nameAndType 58 59), (0, u "api"), (0, u "(I)Lcom/example/brokerwire/brokerwire/ApiKey;"), (0, .methodref 8 61), (0, .nameAndType 62 63), (0, u "isFlexible"), (0, u "(S)Z"), (3, u "law"), (0, u "(II)Z")] 2

def k1m0 : Method := { name := "<init>", desc := "()V", sig := { parameters := [], returnType := none }, accessFlags := 2, code := none }
def k1c1 : Code := { maxStack := 2, maxLocals := 1, code := method_2_code, exceptionTable := #[], attributes := #[] }
def k1m1 : Method := { name := "api", desc := "(I)Lcom/example/brokerwire/brokerwire/ApiKey;", sig := { parameters := [.int], returnType := some (.object "com/example/brokerwire/brokerwire/ApiKey") }, accessFlags := 10, code := some k1c1 }
def k1c2 : Code := { maxStack := 2, maxLocals := 1, code := method_3_code, exceptionTable := #[], attributes := #[] }
def k1m2 : Method := { name := "firstFlexible", desc := "(I)I", sig := { parameters := [.int], returnType := some .int }, accessFlags := 10, code := some k1c2 }
def k1c3 : Code := { maxStack := 2, maxLocals := 5, code := code, exceptionTable := #[], attributes := #[] }
def k1m3 : Method := { name := "law", desc := "(II)Z", sig := { parameters := [.int, .int], returnType := some .boolean }, accessFlags := 9, code := some k1c3 }
/-- com/example/brokerwire/brokerwire/ApiKeyIsFlexiblePinLaw -/
def k1 : Class := { plain "com/example/brokerwire/brokerwire/ApiKeyIsFlexiblePinLaw" (some 0) with
  accessFlags := 49
  interfaces := #[]
  cf := some (fileOf pool1 51 #[] #[{ accessFlags := 2, nameIndex := 5, descriptorIndex := 6, attributes := #[] }, { accessFlags := 10, nameIndex := 58, descriptorIndex := 59, attributes := #[] }, { accessFlags := 10, nameIndex := 54, descriptorIndex := 55, attributes := #[] }, { accessFlags := 9, nameIndex := 67, descriptorIndex := 68, attributes := #[] }] 49 2 #[] #[])
  fields := #[]
  methods := #[k1m0, k1m1, k1m2, k1m3]
  instanceTypes := #[]
  staticTypes := #[]
  resolved := Array.replicate 71 none
  statics := none }

def pool2 : Array CpInfo := pool [(1, .class_ 2), (0, u "java/lang/constant/Constable"), (0, .class_ 4), (0, u "java/lang/Object")] 6

/-- java/lang/constant/Constable -/
def k2 : Class := { plain "java/lang/constant/Constable" (some 0) with
  accessFlags := 1537
  interfaces := #[]
  cf := some (fileOf pool2 1 #[] #[] 1537 3 #[] #[])
  fields := #[]
  methods := #[]
  instanceTypes := #[]
  staticTypes := #[]
  resolved := Array.replicate 11 none
  statics := none }

def pool3 : Array CpInfo := pool [(1, .class_ 2), (0, u "java/lang/Comparable"), (0, .class_ 4), (0, u "java/lang/Object")] 7

/-- java/lang/Comparable -/
def k3 : Class := { plain "java/lang/Comparable" (some 0) with
  accessFlags := 1537
  interfaces := #[]
  cf := some (fileOf pool3 1 #[] #[] 1537 3 #[] #[])
  fields := #[]
  methods := #[]
  instanceTypes := #[]
  staticTypes := #[]
  resolved := Array.replicate 12 none
  statics := none }

def pool4 : Array CpInfo := pool [(1, .class_ 2), (0, u "java/io/Serializable"), (0, .class_ 4), (0, u "java/lang/Object")] 2

/-- java/io/Serializable -/
def k4 : Class := { plain "java/io/Serializable" (some 0) with
  accessFlags := 1537
  interfaces := #[]
  cf := some (fileOf pool4 1 #[] #[] 1537 3 #[] #[])
  fields := #[]
  methods := #[]
  instanceTypes := #[]
  staticTypes := #[]
  resolved := Array.replicate 7 none
  statics := none }

def pool5 : Array CpInfo := pool [(2, .class_ 4), (1, u "java/lang/Enum"), (0, u "name"), (0, u "Ljava/lang/String;"), (2, u "ordinal"), (0, u "I"), (1, .class_ 14), (1, u "java/lang/Object"), (4, u "hash"), (86, .class_ 108), (1, u "java/lang/Enum$EnumDesc"), (2, .class_ 112), (0, u "java/lang/constant/Constable"), (0, .class_ 114), (0, u "java/lang/Comparable"), (0, .class_ 116), (0, u "java/io/Serializable")] 87

/-- java/lang/Enum -/
def k5 : Class := { plain "java/lang/Enum" (some 0) with
  accessFlags := 1057
  interfaces := #[2, 3, 4]
  cf := some (fileOf pool5 2 #[.nestMembers #[106]] #[] 1057 12 #[111, 113, 115] #[{ accessFlags := 18, nameIndex := 5, descriptorIndex := 6, attributes := #[] }, { accessFlags := 18, nameIndex := 9, descriptorIndex := 10, attributes := #[] }, { accessFlags := 2, nameIndex := 19, descriptorIndex := 10, attributes := #[] }])
  fields := #[{ name := "name", type := (.object "java/lang/String"), accessFlags := 18, slot := 0, constantValue := 0 }, { name := "ordinal", type := .int, accessFlags := 18, slot := 1, constantValue := 0 }, { name := "hash", type := .int, accessFlags := 2, slot := 2, constantValue := 0 }]
  methods := #[]
  instanceTypes := #[(.object "java/lang/String"), .int, .int]
  staticTypes := #[]
  resolved := Array.replicate 204 none
  statics := none }

def pool6 : Array CpInfo := pool [(1, .class_ 2), (0, u "com/example/brokerwire/brokerwire/ApiKey"), (2, u "PRODUCE"), (0, u "Lcom/example/brokerwire/brokerwire/ApiKey;"), (2, u "FETCH"), (2, u "LIST_OFFSETS"), (2, u "METADATA"), (2, u "OFFSET_COMMIT"), (2, u "OFFSET_FETCH"), (2, u "FIND_COORDINATOR"), (2, u "JOIN_GROUP"), (2, u "HEARTBEAT"), (2, u "LEAVE_GROUP"), (2, u "SYNC_GROUP"), (2, u "API_VERSIONS"), (2, u "CREATE_TOPICS"), (2, u "$VALUES"), (0, u "[Lcom/example/brokerwire/brokerwire/ApiKey;"), (6, .class_ 55), (1, u "java/lang/Enum"), (8, u "key"), (0, u "S"), (2, u "minVersion"), (2, u "maxVersion"), (0, .fieldref 1 73), (0, .nameAndType 74 65), (0, u "firstFlexibleVersion"), (16, u "isFlexible"), (0, u "(S)Z")] 35

def k6c0 : Code := { maxStack := 2, maxLocals := 2, code := prog_1_method_6_code, exceptionTable := #[], attributes := #[] }
def k6m0 : Method := { name := "isFlexible", desc := "(S)Z", sig := { parameters := [.short], returnType := some .boolean }, accessFlags := 0, code := some k6c0 }
/-- com/example/brokerwire/brokerwire/ApiKey -/
def k6 : Class := { plain "com/example/brokerwire/brokerwire/ApiKey" (some 5) with
  accessFlags := 16432
  interfaces := #[]
  cf := some (fileOf pool6 1 #[] #[{ accessFlags := 0, nameIndex := 91, descriptorIndex := 92, attributes := #[] }] 16432 53 #[] #[{ accessFlags := 16409, nameIndex := 5, descriptorIndex := 6, attributes := #[] }, { accessFlags := 16409, nameIndex := 9, descriptorIndex := 6, attributes := #[] }, { accessFlags := 16409, nameIndex := 12, descriptorIndex := 6, attributes := #[] }, { accessFlags := 16409, nameIndex := 15, descriptorIndex := 6, attributes := #[] }, { accessFlags := 16409, nameIndex := 18, descriptorIndex := 6, attributes := #[] }, { accessFlags := 16409, nameIndex := 21, descriptorIndex := 6, attributes := #[] }, { accessFlags := 16409, nameIndex := 24, descriptorIndex := 6, attributes := #[] }, { accessFlags := 16409, nameIndex := 27, descriptorIndex := 6, attributes := #[] }, { accessFlags := 16409, nameIndex := 30, descriptorIndex := 6, attributes := #[] }, { accessFlags := 16409, nameIndex := 33, descriptorIndex := 6, attributes := #[] }, { accessFlags := 16409, nameIndex := 36, descriptorIndex := 6, attributes := #[] }, { accessFlags := 16409, nameIndex := 39, descriptorIndex := 6, attributes := #[] }, { accessFlags := 16409, nameIndex := 42, descriptorIndex := 6, attributes := #[] }, { accessFlags := 16, nameIndex := 64, descriptorIndex := 65, attributes := #[] }, { accessFlags := 16, nameIndex := 68, descriptorIndex := 65, attributes := #[] }, { accessFlags := 16, nameIndex := 71, descriptorIndex := 65, attributes := #[] }, { accessFlags := 18, nameIndex := 74, descriptorIndex := 65, attributes := #[] }, { accessFlags := 4122, nameIndex := 45, descriptorIndex := 46, attributes := #[] }])
  fields := #[{ name := "PRODUCE", type := (.object "com/example/brokerwire/brokerwire/ApiKey"), accessFlags := 16409, slot := 0, constantValue := 0 }, { name := "FETCH", type := (.object "com/example/brokerwire/brokerwire/ApiKey"), accessFlags := 16409, slot := 1, constantValue := 0 }, { name := "LIST_OFFSETS", type := (.object "com/example/brokerwire/brokerwire/ApiKey"), accessFlags := 16409, slot := 2, constantValue := 0 }, { name := "METADATA", type := (.object "com/example/brokerwire/brokerwire/ApiKey"), accessFlags := 16409, slot := 3, constantValue := 0 }, { name := "OFFSET_COMMIT", type := (.object "com/example/brokerwire/brokerwire/ApiKey"), accessFlags := 16409, slot := 4, constantValue := 0 }, { name := "OFFSET_FETCH", type := (.object "com/example/brokerwire/brokerwire/ApiKey"), accessFlags := 16409, slot := 5, constantValue := 0 }, { name := "FIND_COORDINATOR", type := (.object "com/example/brokerwire/brokerwire/ApiKey"), accessFlags := 16409, slot := 6, constantValue := 0 }, { name := "JOIN_GROUP", type := (.object "com/example/brokerwire/brokerwire/ApiKey"), accessFlags := 16409, slot := 7, constantValue := 0 }, { name := "HEARTBEAT", type := (.object "com/example/brokerwire/brokerwire/ApiKey"), accessFlags := 16409, slot := 8, constantValue := 0 }, { name := "LEAVE_GROUP", type := (.object "com/example/brokerwire/brokerwire/ApiKey"), accessFlags := 16409, slot := 9, constantValue := 0 }, { name := "SYNC_GROUP", type := (.object "com/example/brokerwire/brokerwire/ApiKey"), accessFlags := 16409, slot := 10, constantValue := 0 }, { name := "API_VERSIONS", type := (.object "com/example/brokerwire/brokerwire/ApiKey"), accessFlags := 16409, slot := 11, constantValue := 0 }, { name := "CREATE_TOPICS", type := (.object "com/example/brokerwire/brokerwire/ApiKey"), accessFlags := 16409, slot := 12, constantValue := 0 }, { name := "key", type := .short, accessFlags := 16, slot := 3, constantValue := 0 }, { name := "minVersion", type := .short, accessFlags := 16, slot := 4, constantValue := 0 }, { name := "maxVersion", type := .short, accessFlags := 16, slot := 5, constantValue := 0 }, { name := "firstFlexibleVersion", type := .short, accessFlags := 18, slot := 6, constantValue := 0 }, { name := "$VALUES", type := (.array (.object "com/example/brokerwire/brokerwire/ApiKey")), accessFlags := 4122, slot := 13, constantValue := 0 }]
  methods := #[k6m0]
  instanceTypes := #[(.object "java/lang/String"), .int, .int, .short, .short, .short, .short]
  staticTypes := #[(.object "com/example/brokerwire/brokerwire/ApiKey"), (.object "com/example/brokerwire/brokerwire/ApiKey"), (.object "com/example/brokerwire/brokerwire/ApiKey"), (.object "com/example/brokerwire/brokerwire/ApiKey"), (.object "com/example/brokerwire/brokerwire/ApiKey"), (.object "com/example/brokerwire/brokerwire/ApiKey"), (.object "com/example/brokerwire/brokerwire/ApiKey"), (.object "com/example/brokerwire/brokerwire/ApiKey"), (.object "com/example/brokerwire/brokerwire/ApiKey"), (.object "com/example/brokerwire/brokerwire/ApiKey"), (.object "com/example/brokerwire/brokerwire/ApiKey"), (.object "com/example/brokerwire/brokerwire/ApiKey"), (.object "com/example/brokerwire/brokerwire/ApiKey"), (.array (.object "com/example/brokerwire/brokerwire/ApiKey"))]
  resolved := Array.replicate 128 none
  statics := some 0 }

def pool7 : Array CpInfo := pool [(1, u "java/lang/Cloneable"), (0, .class_ 1), (0, u "java/lang/Object"), (0, .class_ 3)] 3

/-- java/lang/Cloneable -/
def k7 : Class := { plain "java/lang/Cloneable" (some 0) with
  accessFlags := 1537
  interfaces := #[]
  cf := some (fileOf pool7 2 #[] #[] 1537 4 #[] #[])
  fields := #[]
  methods := #[]
  instanceTypes := #[]
  staticTypes := #[]
  resolved := Array.replicate 8 none
  statics := none }

/-- the primitive byte -/
def k8 : Class := { plain "byte" none with kind := .primitive 'B', accessFlags := 0x411 }
/-- [B -/
def k9 : Class := { plain "[B" (some 0) with kind := .array 8 .byte, interfaces := #[7, 4], accessFlags := 1041 }

/-- the primitive int -/
def k10 : Class := { plain "int" none with kind := .primitive 'I', accessFlags := 0x411 }
/-- [I -/
def k11 : Class := { plain "[I" (some 0) with kind := .array 10 .int, interfaces := #[7, 4], accessFlags := 1041 }

def heap : Heap := #[{ cls := 6, slots := #[.ref 1, .ref 2, .ref 10, .ref 4, .ref 3, .ref 6, .ref 7, .ref 13, .ref 8, .ref 5, .ref 11, .ref 12, .ref 9, .null], vm := .statics 6 },
  { cls := 6, slots := #[.null, .int 0, .int 0, .int 0, .int 0, .int 0, .int 9], vm := .none },
  { cls := 6, slots := #[.null, .int 0, .int 0, .int 0, .int 0, .int 0, .int 12], vm := .none },
  { cls := 6, slots := #[.null, .int 0, .int 0, .int 0, .int 0, .int 0, .int 8], vm := .none },
  { cls := 6, slots := #[.null, .int 0, .int 0, .int 0, .int 0, .int 0, .int 9], vm := .none },
  { cls := 6, slots := #[.null, .int 0, .int 0, .int 0, .int 0, .int 0, .int 4], vm := .none },
  { cls := 6, slots := #[.null, .int 0, .int 0, .int 0, .int 0, .int 0, .int 6], vm := .none },
  { cls := 6, slots := #[.null, .int 0, .int 0, .int 0, .int 0, .int 0, .int 3], vm := .none },
  { cls := 6, slots := #[.null, .int 0, .int 0, .int 0, .int 0, .int 0, .int 4], vm := .none },
  { cls := 6, slots := #[.null, .int 0, .int 0, .int 0, .int 0, .int 0, .int 5], vm := .none },
  { cls := 6, slots := #[.null, .int 0, .int 0, .int 0, .int 0, .int 0, .int 6], vm := .none },
  { cls := 6, slots := #[.null, .int 0, .int 0, .int 0, .int 0, .int 0, .int 4], vm := .none },
  { cls := 6, slots := #[.null, .int 0, .int 0, .int 0, .int 0, .int 0, .int 3], vm := .none },
  { cls := 6, slots := #[.null, .int 0, .int 0, .int 0, .int 0, .int 0, .int 6], vm := .none }]
def classes : Array Class := #[k0, k1, k2, k3, k4, k5, k6, k7, k8, k9, k10, k11]
def interned : List (Array UInt16 × Addr) := []
def slotsUsed : Nat := 105
def theMethod : MethodId := ⟨1, 3⟩
def args0 : Array Value := #[.int 1, .int 5]
def aboutOver (below : List Frame) : State where
  vm := { classes := classes, interned := interned.toArray }
  heap := heap
  slotsUsed := slotsUsed
  threads := #[{ frames := .invoking theMethod args0 :: below }]
def below0 : List Frame := [.native { method := ⟨0, 0⟩, args := #[] }]
def about1 : State := aboutOver below0
def p0 : Program := .bare "" "" ""
def e0 : Env := launch0.env 0 0 0
theorem w_frames : about1.frames = Frame.invoking theMethod args0 :: below0 := rfl
set_option maxRecDepth 65536 in
theorem w_args : argsFit about1.vm theMethod args0 = true := by decide +kernel
set_option maxRecDepth 65536 in
theorem w_heap : heapFits about1 = true := by decide +kernel
set_option maxRecDepth 65536 in
theorem w_runnable : about1.curStatus? = some .runnable := by decide +kernel
set_option maxRecDepth 65536 in
theorem w_alone : about1.alone = true := by decide +kernel
set_option maxRecDepth 65536 in
theorem w_named : about1.methodNamed? x = some theMethod := by decide +kernel
set_option maxRecDepth 65536 in
theorem w_hears : about1.hears theMethod below0 = true := by decide +kernel
set_option maxRecDepth 65536 in
theorem w_ripe : about1.ripe theMethod args0 below0 = true := by decide +kernel
theorem w_running : about1.status = .running := rfl
set_option maxRecDepth 65536 in
theorem w_room : about1.hasRoom e0.platform room_1 = true :=
  launch0.hasRoom_least _ room_1 (by decide +kernel) (by decide +kernel) (by decide +kernel) (by decide +kernel) (by decide +kernel) (by decide +kernel)
theorem allAtoms_all (ts : List Jvm.Cond) (a : Array Jvm.Value) (st : Jvm.State) : (allAtoms ts).before a st = ts.all (fun c => c.before a st) := by
  induction ts with
  | nil => rfl
  | cons c t ih =>
    show (Jvm.Cond.and c (allAtoms t)).before a st = _
    rw [Jvm.Cond.before_and, ih, List.all_cons]
def words1 : List Jvm.Cond := Jvm.Cond.code x code maxLocals ret :: tables_1
/-- a 'code' word, met by the world's own term for the bytes: nothing is compared byte by byte -/
theorem code_word {y : MethodName} {bytes : ByteArray} {mx : Nat} {rt : Option FieldType} {a : Array Value} {s : State} {m : MethodId} {meth : Method} {c : Code} (h1 : s.methodNamed? y = some m) (h2 : s.vm.method? m = some meth) (h3 : meth.code = some c) (h4 : c.code = bytes)
    (h5 : (c.maxLocals == mx && c.exceptionTable.isEmpty && decide (c.maxStack ≤ mostOperands) && decide (meth.sig.returnType = rt) && !meth.locks && decide (parseMethodDescriptor y.desc = some meth.sig)) = true) : (Jvm.Cond.code y bytes mx rt).before a s = true := by
  simp only [Bool.and_eq_true, beq_iff_eq, Bool.not_eq_true', decide_eq_true_eq] at h5
  obtain ⟨⟨⟨⟨⟨g1, g2⟩, g3⟩, g4⟩, g5⟩, g6⟩ := h5
  simp [Cond.before, Cond.holds, Cond.value, h1, h2, h3, h4, g1, g2, g3, g4, g5, g6]
def isCode : Jvm.Cond → Bool
  | .code _ _ _ _ => true
  | _ => false
theorem all_split {L : List Jvm.Cond} {P : Jvm.Cond → Bool} (h1 : L.all (fun c => isCode c || P c) = true) (h2 : ∀ c ∈ L.filter isCode, P c = true) : L.all P = true := by
  refine List.all_eq_true.mpr fun c hc => ?_
  have h := List.all_eq_true.mp h1 c hc
  rcases Bool.eq_false_or_eq_true (isCode c) with hi | hi
  · exact h2 c (List.mem_filter.mpr ⟨hc, hi⟩)
  · simpa [hi] using h
set_option maxRecDepth 65536 in
theorem w_c0 : (Jvm.Cond.code x code maxLocals ret).before args0 about1 = true := code_word (m := ⟨1, 3⟩) (meth := k1m3) (c := k1c3) (by decide +kernel) rfl rfl rfl (by decide +kernel)
set_option maxRecDepth 65536 in
theorem w_c1 : (Jvm.Cond.code ({ cls := "com/example/brokerwire/brokerwire/ApiKeyIsFlexiblePinLaw", name := "firstFlexible", desc := "(I)I" } : Jvm.MethodName) method_3_code (1 : Nat) (Option.some Jvm.ClassFile.FieldType.int)).before args0 about1 = true := code_word (m := ⟨1, 2⟩) (meth := k1m2) (c := k1c2) (by decide +kernel) rfl rfl rfl (by decide +kernel)
set_option maxRecDepth 65536 in
theorem w_c2 : (Jvm.Cond.code ({ cls := "com/example/brokerwire/brokerwire/ApiKeyIsFlexiblePinLaw", name := "api", desc := "(I)Lcom/example/brokerwire/brokerwire/ApiKey;" } : Jvm.MethodName) method_2_code (1 : Nat) (Option.some (Jvm.ClassFile.FieldType.object "com/example/brokerwire/brokerwire/ApiKey"))).before args0 about1 = true := code_word (m := ⟨1, 1⟩) (meth := k1m1) (c := k1c1) (by decide +kernel) rfl rfl rfl (by decide +kernel)
set_option maxRecDepth 65536 in
theorem w_c3 : (Jvm.Cond.code ({ cls := "com/example/brokerwire/brokerwire/ApiKey", name := "isFlexible", desc := "(S)Z" } : Jvm.MethodName) prog_1_method_6_code (2 : Nat) (Option.some Jvm.ClassFile.FieldType.boolean)).before args0 about1 = true := code_word (m := ⟨6, 0⟩) (meth := k6m0) (c := k6c0) (by decide +kernel) rfl rfl rfl (by decide +kernel)
def codes1 : List Jvm.Cond := [Jvm.Cond.code x code maxLocals ret, Jvm.Cond.code ({ cls := "com/example/brokerwire/brokerwire/ApiKeyIsFlexiblePinLaw", name := "firstFlexible", desc := "(I)I" } : Jvm.MethodName) method_3_code (1 : Nat) (Option.some Jvm.ClassFile.FieldType.int), Jvm.Cond.code ({ cls := "com/example/brokerwire/brokerwire/ApiKeyIsFlexiblePinLaw", name := "api", desc := "(I)Lcom/example/brokerwire/brokerwire/ApiKey;" } : Jvm.MethodName) method_2_code (1 : Nat) (Option.some (Jvm.ClassFile.FieldType.object "com/example/brokerwire/brokerwire/ApiKey")), Jvm.Cond.code ({ cls := "com/example/brokerwire/brokerwire/ApiKey", name := "isFlexible", desc := "(S)Z" } : Jvm.MethodName) prog_1_method_6_code (2 : Nat) (Option.some Jvm.ClassFile.FieldType.boolean)]
set_option maxRecDepth 65536 in
theorem codes_eq : words1.filter isCode = codes1 := rfl
theorem w_codes : ∀ c ∈ words1.filter isCode, c.before args0 about1 = true := by
  rw [codes_eq]
  intro c hc
  simp only [codes1, List.mem_cons, List.not_mem_nil, or_false] at hc
  rcases hc with rfl | rfl | rfl | rfl
  · exact w_c0
  · exact w_c1
  · exact w_c2
  · exact w_c3
set_option maxRecDepth 65536 in
theorem w_t1 : (words1.take 24).all (fun c => isCode c || c.before args0 about1) = true := by decide +kernel
set_option maxRecDepth 65536 in
theorem w_t2 : (words1.drop 24).all (fun c => isCode c || c.before args0 about1) = true := by decide +kernel
theorem w_tables : (allAtoms (Jvm.Cond.code x code maxLocals ret :: tables_1)).before args0 about1 = true := by
  rw [allAtoms_all]
  show words1.all (fun c => c.before args0 about1) = true
  refine all_split ?_ w_codes
  rw [← List.take_append_drop 24 words1, List.all_append, w_t1, w_t2]
  rfl
set_option maxRecDepth 65536 in
theorem w_case : (Jvm.Cond.and given_1 narrow_1).before args0 about1 = true := by decide +kernel
theorem w_applies : (headSpec (Jvm.Cond.code x code maxLocals ret :: tables_1) room_1).applies x e0.platform about1 = true :=
  (Spec.applies_iff w_frames).mpr ⟨w_running, w_runnable, w_alone, w_named, w_hears, w_ripe, w_room, w_tables⟩
theorem atStart : AtStart classFile x code maxLocals ret World_1 tables_1 room_1 Calls_1 rest_1 Pre_1 launch0 p0 e0 about1 theMethod args0 below0 :=
  ⟨lists_1, trivial, launch0.admits_env _ _ _, launch0.least_env, fairChoices_fair.cas, fairChoices_fair.clock, w_frames, w_args, w_heap, w_applies, trivial, trivial, w_case⟩
end start1
theorem witness_1 : WitnessClaimed_1 := ⟨start1.p0, start1.e0, start1.about1, start1.theMethod, start1.args0, start1.below0, start1.atStart⟩
end Jvm.Pilot.@@N@@
