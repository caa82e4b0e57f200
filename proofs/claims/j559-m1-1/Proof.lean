import JvmDerived
import JvmDerived.Pilot.@@N@@Statement
import JvmDerived.Pilot.@@N@@Code
set_option linter.unusedVariables false
set_option linter.unusedSimpArgs false
namespace Jvm.RoadKit
open Sem ClassFile Op Lib Jvm.Stand Jvm.Free Jvm.LawKit
section New
variable {p : Program} {l : Launch} {e : Env} {R : Room} {s : State} {m : MethodId} {args : Array Value} {below : List Frame} {meth : Method} {c : Code} {T : State} {locs : List Loc} {cells slots : Nat}
theorem retI (X : Stand p l e R s m args below meth c T locs cells slots) (hx : p.tables.exec = Jvm.exec) {pc : Nat} {Ls : Array Slot} {z : Int32} {rest : List Value} (hret : meth.sig.returnType = some .int) (hd : decode c.code pc = .ok (.ireturn, 1)) {fs : List Frame}
    (hl : ∀ (f : JFrame) (acts : List Action), f.method = m → f.locked = none → f.entered = [] → (doReturn e (T.setTop f) acts (some (.int z))).1 = T.setFrames fs) : Steps p.tables e below (T.setTop (mkF m pc Ls (.int z :: rest))) (T.setFrames fs) := by
  have hm' : T.vm.method? m = some meth := X.method'
  have hn : narrow .int (.int z) = .int z := rfl
  show Steps p.tables e below (T.setTop { method := m, pc := pc, locals := Ls, stack := _ :: rest, locked := none }) _
  jvm_step X.here [X.here.top, hx, hd, hm', hret, hn]
  first | (intro acts; rw [hl _ acts rfl rfl rfl]) | rw [hl _ _ rfl rfl rfl]
  exact Steps.refl _
theorem lremM {g : JFrame} {target : State} (X : Stand p l e R s m args below meth c T locs cells slots) (hx : p.tables.exec = Jvm.exec) (hg : g.method = m) {x y : Int64} {rest : List Value} (hd : decode c.code g.pc = .ok (.lrem, 1)) (hs : g.stack = .long y :: .long x :: rest) (hy : y ≠ 0)
    (hr : Steps p.tables e below (T.setTop { g with pc := g.pc + 1, stack := .long (x % y) :: rest }) target) : Steps p.tables e below (T.setTop g) target := by
  have q : x - x / y * y = x % y := lrem_mod x y
  exact XS.lrem X.here hx hg hd hs hy (by rw [q]; exact hr)
/-- from the state t the invocation ends as Q says -/
def Done (p : Program) (e : Env) (below : List Frame) (Q : Outcome → State → Prop) (t : State) : Prop := ∃ s₂ o, Steps p.tables e below t s₂ ∧ s₂.status = .running ∧ Ended s₂ below o ∧ Q o s₂
theorem Done.of {p : Program} {e : Env} {below : List Frame} {Q : Outcome → State → Prop} {t t' : State} (h : Done p e below Q t') (k : ∀ target, Steps p.tables e below t' target → Steps p.tables e below t target) : Done p e below Q t := by
  obtain ⟨s₂, o, h1, h2⟩ := h
  exact ⟨s₂, o, k _ h1, h2⟩
end New
end Jvm.RoadKit
namespace Jvm.Pilot.@@N@@
open Jvm Jvm.ClassFile Sem Op Lib Jvm.Free Jvm.Stand Jvm.LawKit Jvm.RoadKit Bundle Jvm.Pilot.@@N@@.Jvm.D
theorem own_eqint {args : Array Value} {s : State} {t : Term} {k : Int32} (h : (Jvm.Cond.eq t (.int k)).value args s none s [] = some true) : t.eval args s none [] s = some (.int k) := by
  simp only [Cond.value, Term.eval] at h
  cases ht : t.eval args s none [] s with
  | none => simp [ht] at h
  | some x => cases x <;> simp [ht] at h ⊢; exact h
def own_min (n : Nat) : Int32 := if n = 0 then 3 else if n = 1 then 4 else if n = 2 then 1 else if n = 3 then 0 else if n = 4 then 2 else if n = 5 then 1 else if n = 6 then 0 else if n = 7 then 0 else if n = 8 then 0 else if n = 9 then 0 else if n = 10 then 0 else if n = 11 then 0 else 0
def own_max (n : Nat) : Int32 := if n = 0 then 3 else if n = 1 then 4 else if n = 2 then 1 else if n = 3 then 1 else if n = 4 then 2 else if n = 5 then 1 else if n = 6 then 0 else if n = 7 then 0 else if n = 8 then 0 else if n = 9 then 0 else if n = 10 then 0 else if n = 11 then 3 else 0

theorem own_idx {i k : Int32} (h : i = ((k &&& (2147483647 : Int32)) % (13 : Int32))) : 0 ≤ i.toInt ∧ i.toInt < 13 := by
  have h1 := c_mask k (2147483647 : Int32) 31 (by decide) (by decide)
  have h2 := (c_irem (k &&& (2147483647 : Int32)) (13 : Int32) 13 (by decide)).1 (by omega)
  rw [h]
  omega
theorem own_is {p : Int32} {k : Int32} {n : Nat} (h : p = k) (hk : k.toInt = (n : Int)) : p.toInt = (n : Int) := by rw [h]; exact hk
theorem own_isnt {p : Int32} {k : Int32} {n : Nat} (h : ¬ p = k) (hk : k.toInt = (n : Int)) : p.toInt ≠ (n : Int) := fun q => h (Int32.toInt_inj.mp (by rw [q, hk]))
theorem own_clamp {i : Int32} {n : Nat} (h : i.toInt = (n : Int)) : i.toNatClampNeg = n := by
  show i.toInt.toNat = n
  omega
theorem own_neg {i : Int32} {n : Nat} (h : i.toInt = (n : Int)) : ¬ i < 0 := by
  rw [Int32.lt_iff_toInt_lt, show (0 : Int32).toInt = 0 from by decide]
  omega
theorem own_13 : (13 : Int32).toNatClampNeg = 13 := by decide
theorem own_gmin (n : Nat) (h : n < 13) (d : Value) : ([(.int (3 : Int32)), (.int (4 : Int32)), (.int (1 : Int32)), (.int (0 : Int32)), (.int (2 : Int32)), (.int (1 : Int32)), (.int (0 : Int32)), (.int (0 : Int32)), (.int (0 : Int32)), (.int (0 : Int32)), (.int (0 : Int32)), (.int (0 : Int32)), (.int (0 : Int32))] : List Value).getD n d = .int (own_min n) := by
  match n, h with
  | 0, _ => rfl
  | 1, _ => rfl
  | 2, _ => rfl
  | 3, _ => rfl
  | 4, _ => rfl
  | 5, _ => rfl
  | 6, _ => rfl
  | 7, _ => rfl
  | 8, _ => rfl
  | 9, _ => rfl
  | 10, _ => rfl
  | 11, _ => rfl
  | 12, _ => rfl
  | m + 13, q => exact absurd q (by omega)
theorem own_gmax (n : Nat) (h : n < 13) (d : Value) : ([(.int (3 : Int32)), (.int (4 : Int32)), (.int (1 : Int32)), (.int (1 : Int32)), (.int (2 : Int32)), (.int (1 : Int32)), (.int (0 : Int32)), (.int (0 : Int32)), (.int (0 : Int32)), (.int (0 : Int32)), (.int (0 : Int32)), (.int (3 : Int32)), (.int (0 : Int32))] : List Value).getD n d = .int (own_max n) := by
  match n, h with
  | 0, _ => rfl
  | 1, _ => rfl
  | 2, _ => rfl
  | 3, _ => rfl
  | 4, _ => rfl
  | 5, _ => rfl
  | 6, _ => rfl
  | 7, _ => rfl
  | 8, _ => rfl
  | 9, _ => rfl
  | 10, _ => rfl
  | 11, _ => rfl
  | 12, _ => rfl
  | m + 13, q => exact absurd q (by omega)
theorem own_m0 : ∀ n : Fin 13, (if (((own_min n.val) - (1 : Int32)).toInt16.toInt32) < (own_min n.val) then (0 : Int32) else (if (own_max n.val) < (((own_min n.val) - (1 : Int32)).toInt16.toInt32) then (0 : Int32) else (1 : Int32))) = (0 : Int32) := by decide +kernel
theorem own_m1 : ∀ n : Fin 13, (if ((own_min n.val).toInt16.toInt32) < (own_min n.val) then (0 : Int32) else (if (own_max n.val) < ((own_min n.val).toInt16.toInt32) then (0 : Int32) else (1 : Int32))) = (1 : Int32) := by decide +kernel
theorem own_m2 : ∀ n : Fin 13, (if ((own_max n.val).toInt16.toInt32) < (own_min n.val) then (0 : Int32) else (if (own_max n.val) < ((own_max n.val).toInt16.toInt32) then (0 : Int32) else (1 : Int32))) = (1 : Int32) := by decide +kernel
theorem own_m3 : ∀ n : Fin 13, (if (((own_max n.val) + (1 : Int32)).toInt16.toInt32) < (own_min n.val) then (0 : Int32) else (if (own_max n.val) < (((own_max n.val) + (1 : Int32)).toInt16.toInt32) then (0 : Int32) else (1 : Int32))) = (0 : Int32) := by decide +kernel
theorem d1_0 : decode method_2_code 0 = .ok (.iload_n 0, 1) := by decide +kernel
theorem d1_1 : decode method_2_code 1 = .ok (.ifCond .ne 7, 3) := by decide +kernel
theorem d1_4 : decode method_2_code 4 = .ok (.getstatic 7, 3) := by decide +kernel
theorem d1_7 : decode method_2_code 7 = .ok (.areturn, 1) := by decide +kernel
theorem d1_8 : decode method_2_code 8 = .ok (.iload_n 0, 1) := by decide +kernel
theorem d1_9 : decode method_2_code 9 = .ok (.iconst 1, 1) := by decide +kernel
theorem d1_10 : decode method_2_code 10 = .ok (.if_icmp .ne 7, 3) := by decide +kernel
theorem d1_13 : decode method_2_code 13 = .ok (.getstatic 13, 3) := by decide +kernel
theorem d1_16 : decode method_2_code 16 = .ok (.areturn, 1) := by decide +kernel
theorem d1_17 : decode method_2_code 17 = .ok (.iload_n 0, 1) := by decide +kernel
theorem d1_18 : decode method_2_code 18 = .ok (.iconst 2, 1) := by decide +kernel
theorem d1_19 : decode method_2_code 19 = .ok (.if_icmp .ne 7, 3) := by decide +kernel
theorem d1_22 : decode method_2_code 22 = .ok (.getstatic 16, 3) := by decide +kernel
theorem d1_25 : decode method_2_code 25 = .ok (.areturn, 1) := by decide +kernel
theorem d1_26 : decode method_2_code 26 = .ok (.iload_n 0, 1) := by decide +kernel
theorem d1_27 : decode method_2_code 27 = .ok (.iconst 3, 1) := by decide +kernel
theorem d1_28 : decode method_2_code 28 = .ok (.if_icmp .ne 7, 3) := by decide +kernel
theorem d1_31 : decode method_2_code 31 = .ok (.getstatic 19, 3) := by decide +kernel
theorem d1_34 : decode method_2_code 34 = .ok (.areturn, 1) := by decide +kernel
theorem d1_35 : decode method_2_code 35 = .ok (.iload_n 0, 1) := by decide +kernel
theorem d1_36 : decode method_2_code 36 = .ok (.iconst 4, 1) := by decide +kernel
theorem d1_37 : decode method_2_code 37 = .ok (.if_icmp .ne 7, 3) := by decide +kernel
theorem d1_40 : decode method_2_code 40 = .ok (.getstatic 22, 3) := by decide +kernel
theorem d1_43 : decode method_2_code 43 = .ok (.areturn, 1) := by decide +kernel
theorem d1_44 : decode method_2_code 44 = .ok (.iload_n 0, 1) := by decide +kernel
theorem d1_45 : decode method_2_code 45 = .ok (.iconst 5, 1) := by decide +kernel
theorem d1_46 : decode method_2_code 46 = .ok (.if_icmp .ne 7, 3) := by decide +kernel
theorem d1_49 : decode method_2_code 49 = .ok (.getstatic 25, 3) := by decide +kernel
theorem d1_52 : decode method_2_code 52 = .ok (.areturn, 1) := by decide +kernel
theorem d1_53 : decode method_2_code 53 = .ok (.iload_n 0, 1) := by decide +kernel
theorem d1_54 : decode method_2_code 54 = .ok (.bipush 6, 2) := by decide +kernel
theorem d1_56 : decode method_2_code 56 = .ok (.if_icmp .ne 7, 3) := by decide +kernel
theorem d1_59 : decode method_2_code 59 = .ok (.getstatic 28, 3) := by decide +kernel
theorem d1_62 : decode method_2_code 62 = .ok (.areturn, 1) := by decide +kernel
theorem d1_63 : decode method_2_code 63 = .ok (.iload_n 0, 1) := by decide +kernel
theorem d1_64 : decode method_2_code 64 = .ok (.bipush 7, 2) := by decide +kernel
theorem d1_66 : decode method_2_code 66 = .ok (.if_icmp .ne 7, 3) := by decide +kernel
theorem d1_69 : decode method_2_code 69 = .ok (.getstatic 31, 3) := by decide +kernel
theorem d1_72 : decode method_2_code 72 = .ok (.areturn, 1) := by decide +kernel
theorem d1_73 : decode method_2_code 73 = .ok (.iload_n 0, 1) := by decide +kernel
theorem d1_74 : decode method_2_code 74 = .ok (.bipush 8, 2) := by decide +kernel
theorem d1_76 : decode method_2_code 76 = .ok (.if_icmp .ne 7, 3) := by decide +kernel
theorem d1_79 : decode method_2_code 79 = .ok (.getstatic 34, 3) := by decide +kernel
theorem d1_82 : decode method_2_code 82 = .ok (.areturn, 1) := by decide +kernel
theorem d1_83 : decode method_2_code 83 = .ok (.iload_n 0, 1) := by decide +kernel
theorem d1_84 : decode method_2_code 84 = .ok (.bipush 9, 2) := by decide +kernel
theorem d1_86 : decode method_2_code 86 = .ok (.if_icmp .ne 7, 3) := by decide +kernel
theorem d1_89 : decode method_2_code 89 = .ok (.getstatic 37, 3) := by decide +kernel
theorem d1_92 : decode method_2_code 92 = .ok (.areturn, 1) := by decide +kernel
theorem d1_93 : decode method_2_code 93 = .ok (.iload_n 0, 1) := by decide +kernel
theorem d1_94 : decode method_2_code 94 = .ok (.bipush 10, 2) := by decide +kernel
theorem d1_96 : decode method_2_code 96 = .ok (.if_icmp .ne 7, 3) := by decide +kernel
theorem d1_99 : decode method_2_code 99 = .ok (.getstatic 40, 3) := by decide +kernel
theorem d1_102 : decode method_2_code 102 = .ok (.areturn, 1) := by decide +kernel
theorem d1_103 : decode method_2_code 103 = .ok (.iload_n 0, 1) := by decide +kernel
theorem d1_104 : decode method_2_code 104 = .ok (.bipush 11, 2) := by decide +kernel
theorem d1_106 : decode method_2_code 106 = .ok (.if_icmp .ne 7, 3) := by decide +kernel
theorem d1_109 : decode method_2_code 109 = .ok (.getstatic 43, 3) := by decide +kernel
theorem d1_112 : decode method_2_code 112 = .ok (.areturn, 1) := by decide +kernel
theorem d1_113 : decode method_2_code 113 = .ok (.getstatic 46, 3) := by decide +kernel
theorem d1_116 : decode method_2_code 116 = .ok (.areturn, 1) := by decide +kernel
theorem pn_1 : plainName "com/example/brokerwire/brokerwire/ApiKeyImplementsVersionPinLaw" = true := by first | (simp [plainName, overriddenIn]; done) | decide +kernel
theorem ef_1 (m : MethodId) (p0 : Int32)  : entryFrame m #[(.int p0)] 1 = mkF m 0 #[.val (.int p0)] [] := by first | (simp [entryFrame, mkF, argsToLocals, Value.category]; done) | rfl
def Q1 (Z : State) (p0 : Int32) (A : Nat → Addr) (h0 : Heap) (n0 : Nat) (v : Option Value) (h : Heap) (L : List Loc) : Prop := ∃ n : Nat, v = some (.ref (A n)) ∧ Fr n0 L ∧ h = h0 ∧ n < 13 ∧ p0.toInt = (n : Int)
set_option maxRecDepth 65536 in
set_option maxHeartbeats 40000000 in
theorem rm1 (l : Launch) (Z : State) (a0 : Array Value) (hw : ∀ d ∈ tables_1, d.before a0 Z = true) (ws : List Jvm.Cond) (p0 : Int32) (A : Nat → Addr) (h0 : Heap) (n0 : Nat) (Z0 : n0 ≤ h0.size) (hlo : 0 ≤ p0.toInt) (hhi : p0.toInt < 13) (S0 : Sta Z h0 "com/example/brokerwire/brokerwire/ApiKey" "PRODUCE" "Lcom/example/brokerwire/brokerwire/ApiKey;" (.ref (A 0))) (S1 : Sta Z h0 "com/example/brokerwire/brokerwire/ApiKey" "FETCH" "Lcom/example/brokerwire/brokerwire/ApiKey;" (.ref (A 1))) (S2 : Sta Z h0 "com/example/brokerwire/brokerwire/ApiKey" "LIST_OFFSETS" "Lcom/example/brokerwire/brokerwire/ApiKey;" (.ref (A 2))) (S3 : Sta Z h0 "com/example/brokerwire/brokerwire/ApiKey" "METADATA" "Lcom/example/brokerwire/brokerwire/ApiKey;" (.ref (A 3))) (S4 : Sta Z h0 "com/example/brokerwire/brokerwire/ApiKey" "OFFSET_COMMIT" "Lcom/example/brokerwire/brokerwire/ApiKey;" (.ref (A 4))) (S5 : Sta Z h0 "com/example/brokerwire/brokerwire/ApiKey" "OFFSET_FETCH" "Lcom/example/brokerwire/brokerwire/ApiKey;" (.ref (A 5))) (S6 : Sta Z h0 "com/example/brokerwire/brokerwire/ApiKey" "FIND_COORDINATOR" "Lcom/example/brokerwire/brokerwire/ApiKey;" (.ref (A 6))) (S7 : Sta Z h0 "com/example/brokerwire/brokerwire/ApiKey" "JOIN_GROUP" "Lcom/example/brokerwire/brokerwire/ApiKey;" (.ref (A 7))) (S8 : Sta Z h0 "com/example/brokerwire/brokerwire/ApiKey" "HEARTBEAT" "Lcom/example/brokerwire/brokerwire/ApiKey;" (.ref (A 8))) (S9 : Sta Z h0 "com/example/brokerwire/brokerwire/ApiKey" "LEAVE_GROUP" "Lcom/example/brokerwire/brokerwire/ApiKey;" (.ref (A 9))) (S10 : Sta Z h0 "com/example/brokerwire/brokerwire/ApiKey" "SYNC_GROUP" "Lcom/example/brokerwire/brokerwire/ApiKey;" (.ref (A 10))) (S11 : Sta Z h0 "com/example/brokerwire/brokerwire/ApiKey" "API_VERSIONS" "Lcom/example/brokerwire/brokerwire/ApiKey;" (.ref (A 11))) (S12 : Sta Z h0 "com/example/brokerwire/brokerwire/ApiKey" "CREATE_TOPICS" "Lcom/example/brokerwire/brokerwire/ApiKey;" (.ref (A 12))) :
    MetFree l (⟨"com/example/brokerwire/brokerwire/ApiKeyImplementsVersionPinLaw", "pick", "(I)Lcom/example/brokerwire/brokerwire/ApiKey;"⟩ : MethodName) (head1 (Jvm.Cond.code (⟨"com/example/brokerwire/brokerwire/ApiKeyImplementsVersionPinLaw", "pick", "(I)Lcom/example/brokerwire/brokerwire/ApiKey;"⟩ : MethodName) method_2_code 1 (some (.object "com/example/brokerwire/brokerwire/ApiKey")) :: ws) ({ frames := 0, cells := 0, slots := 0, locals := 0 } : Room)) (fun a U => a = #[(.int p0)] ∧ Z.Warmed39 U.vm ∧ U.heap = h0) (fun _ _ _ _ _ => True) (fun _ U o U' => ∃ v L, o = .returned v ∧ Q1 Z p0 A h0 n0 v U'.heap L ∧ FrameEnd U o U' L ({ frames := 0, cells := 0, slots := 0, locals := 0 } : Room).cells ({ frames := 0, cells := 0, slots := 0, locals := 0 } : Room).slots) := by
  refine MetFree.of_bodySF (plainFor_of_name pn_1) hisR ?_
  intro p e s m args below meth c s₁ Bd hml0 hP hK
  obtain ⟨rfl, hZ, hh⟩ := hP
  have hx := Bd.exec
  have hby := Bd.bytes
  have hml : c.maxLocals = 1 := hml0
  have hown : s.vm.findClass "com/example/brokerwire/brokerwire/ApiKeyImplementsVersionPinLaw" = some m.cls := findClass_of_methodNamed Bd.named
  have hnm := (name_of_methodNamed Bd.named Bd.method).1
  have X0 : Stand p l e ({ frames := 0, cells := 0, slots := 0, locals := 0 } : Room) s m #[(.int p0)] below meth c s₁ [] 0 0 := Stand.of_body Bd
  have e0 : s₁.heap = h0 := by rw [← hh, Bd.state]; rfl
  have N0 := Fr.nil n0
  have pre0 : ∀ t, Steps p.tables e below (s₁.setTop (mkF m 0 #[.val (.int p0)] [])) t → Steps p.tables e below (s₁.setTop (entryFrame m #[(.int p0)] 1)) t := fun t k => castTop (ef_1 m p0) k
  show Done p e below _ _
  refine Done.of ?_ pre0
  have K1 : ∀ target, Steps p.tables e below (s₁.setTop (mkF m 1 #[.val (.int p0)] [(.int p0)])) target → Steps p.tables e below (s₁.setTop (mkF m 0 #[.val (.int p0)] [])) target := by
    intro target kt
    show Steps p.tables e below (s₁.setTop (mkF m 0 #[.val (.int p0)] [])) _
    refine XS.iloadN X0.here hx rfl (hb hby d1_0) rfl ?_
    exact kt
  refine Done.of ?_ K1
  by_cases hc1_2 : p0 = (0 : Int32)
  · have K : ∀ target, Steps p.tables e below (s₁.setTop (mkF m 4 #[.val (.int p0)] [])) target → Steps p.tables e below (s₁.setTop (mkF m 1 #[.val (.int p0)] [(.int p0)])) target := by
      intro target kt
      refine XS.ifNo X0.here hx rfl (hb hby d1_1) rfl ((if0 _ _).trans (teq hc1_2).2) ?_
      exact kt
    refine Done.of ?_ K
    obtain ⟨T3, X3, e3, st3⟩ := getS2 X0 hx hZ hown (host := "") (Or.inl (hw _ (List.mem_of_getElem? (i := 5) rfl))) Via.refl e0 S0 (g := (mkF m 4 #[.val (.int p0)] [])) rfl (hb hby d1_4)
    obtain ⟨fs, hr, hrun, hended, hW, hsame⟩ := X3.leave (v := some (.ref (A 0))) (fun h => by rw [Bd.returns] at h; cases h)
    refine ⟨_, _, ?_, hrun, hended, _, _, rfl, ?_, ⟨_, rfl⟩, hW, hsame.mono (by decide) (by decide)⟩
    · show Steps p.tables e below (s₁.setTop (mkF m 4 #[.val (.int p0)] [])) _
      refine st3 _ ?_
      show Steps p.tables e below (T3.setTop (mkF m 7 #[.val (.int p0)] [(.ref (A 0))])) _
      jvm_step X3.here [X3.here.top, hx, (hb hby d1_7), X3.method', Bd.returns, Value.isRef, FieldType.isReference]
      first | (intro acts; rw [hr _ acts rfl rfl rfl]) | rw [hr _ _ rfl rfl rfl]
      exact Steps.refl _
    · show Q1 Z p0 A h0 n0 _ T3.heap _
      rw [e3]
      have c0 := own_is hc1_2 (n := 0) (by decide)
      have cn : p0.toInt = ((0 : Nat) : Int) := by omega
      exact ⟨0, rfl, N0, rfl, by decide, cn⟩
  · have K : ∀ target, Steps p.tables e below (s₁.setTop (mkF m 8 #[.val (.int p0)] [])) target → Steps p.tables e below (s₁.setTop (mkF m 1 #[.val (.int p0)] [(.int p0)])) target := by
      intro target kt
      refine XS.ifYes X0.here hx rfl (pc0 := 1) (pc' := 8) rfl (hb hby d1_1) rfl ((if0 _ _).trans (feq hc1_2).2) (by decide) (by decide) ?_
      exact kt
    refine Done.of ?_ K
    have K4 : ∀ target, Steps p.tables e below (s₁.setTop (mkF m 10 #[.val (.int p0)] [(.int (1 : Int32)), (.int p0)])) target → Steps p.tables e below (s₁.setTop (mkF m 8 #[.val (.int p0)] [])) target := by
      intro target kt
      show Steps p.tables e below (s₁.setTop (mkF m 8 #[.val (.int p0)] [])) _
      refine XS.iloadN X0.here hx rfl (hb hby d1_8) rfl ?_
      show Steps p.tables e below (s₁.setTop (mkF m 9 #[.val (.int p0)] [(.int p0)])) _
      refine XS.iconst X0.here hx rfl (hb hby d1_9) ?_
      exact kt
    refine Done.of ?_ K4
    by_cases hc10_5 : p0 = (1 : Int32)
    · have K : ∀ target, Steps p.tables e below (s₁.setTop (mkF m 13 #[.val (.int p0)] [])) target → Steps p.tables e below (s₁.setTop (mkF m 10 #[.val (.int p0)] [(.int (1 : Int32)), (.int p0)])) target := by
        intro target kt
        refine XS.icmpNo X0.here hx rfl (hb hby d1_10) rfl (teq hc10_5).2 ?_
        exact kt
      refine Done.of ?_ K
      obtain ⟨T6, X6, e6, st6⟩ := getS2 X0 hx hZ hown (host := "") (Or.inl (hw _ (List.mem_of_getElem? (i := 18) rfl))) Via.refl e0 S1 (g := (mkF m 13 #[.val (.int p0)] [])) rfl (hb hby d1_13)
      obtain ⟨fs, hr, hrun, hended, hW, hsame⟩ := X6.leave (v := some (.ref (A 1))) (fun h => by rw [Bd.returns] at h; cases h)
      refine ⟨_, _, ?_, hrun, hended, _, _, rfl, ?_, ⟨_, rfl⟩, hW, hsame.mono (by decide) (by decide)⟩
      · show Steps p.tables e below (s₁.setTop (mkF m 13 #[.val (.int p0)] [])) _
        refine st6 _ ?_
        show Steps p.tables e below (T6.setTop (mkF m 16 #[.val (.int p0)] [(.ref (A 1))])) _
        jvm_step X6.here [X6.here.top, hx, (hb hby d1_16), X6.method', Bd.returns, Value.isRef, FieldType.isReference]
        first | (intro acts; rw [hr _ acts rfl rfl rfl]) | rw [hr _ _ rfl rfl rfl]
        exact Steps.refl _
      · show Q1 Z p0 A h0 n0 _ T6.heap _
        rw [e6]
        have c0 := own_isnt hc1_2 (n := 0) (by decide)
        have c1 := own_is hc10_5 (n := 1) (by decide)
        have cn : p0.toInt = ((1 : Nat) : Int) := by omega
        exact ⟨1, rfl, N0, rfl, by decide, cn⟩
    · have K : ∀ target, Steps p.tables e below (s₁.setTop (mkF m 17 #[.val (.int p0)] [])) target → Steps p.tables e below (s₁.setTop (mkF m 10 #[.val (.int p0)] [(.int (1 : Int32)), (.int p0)])) target := by
        intro target kt
        refine XS.icmpYes X0.here hx rfl (pc0 := 10) (pc' := 17) rfl (hb hby d1_10) rfl (feq hc10_5).2 (by decide) (by decide) ?_
        exact kt
      refine Done.of ?_ K
      have K7 : ∀ target, Steps p.tables e below (s₁.setTop (mkF m 19 #[.val (.int p0)] [(.int (2 : Int32)), (.int p0)])) target → Steps p.tables e below (s₁.setTop (mkF m 17 #[.val (.int p0)] [])) target := by
        intro target kt
        show Steps p.tables e below (s₁.setTop (mkF m 17 #[.val (.int p0)] [])) _
        refine XS.iloadN X0.here hx rfl (hb hby d1_17) rfl ?_
        show Steps p.tables e below (s₁.setTop (mkF m 18 #[.val (.int p0)] [(.int p0)])) _
        refine XS.iconst X0.here hx rfl (hb hby d1_18) ?_
        exact kt
      refine Done.of ?_ K7
      by_cases hc19_8 : p0 = (2 : Int32)
      · have K : ∀ target, Steps p.tables e below (s₁.setTop (mkF m 22 #[.val (.int p0)] [])) target → Steps p.tables e below (s₁.setTop (mkF m 19 #[.val (.int p0)] [(.int (2 : Int32)), (.int p0)])) target := by
          intro target kt
          refine XS.icmpNo X0.here hx rfl (hb hby d1_19) rfl (teq hc19_8).2 ?_
          exact kt
        refine Done.of ?_ K
        obtain ⟨T9, X9, e9, st9⟩ := getS2 X0 hx hZ hown (host := "") (Or.inl (hw _ (List.mem_of_getElem? (i := 36) rfl))) Via.refl e0 S2 (g := (mkF m 22 #[.val (.int p0)] [])) rfl (hb hby d1_22)
        obtain ⟨fs, hr, hrun, hended, hW, hsame⟩ := X9.leave (v := some (.ref (A 2))) (fun h => by rw [Bd.returns] at h; cases h)
        refine ⟨_, _, ?_, hrun, hended, _, _, rfl, ?_, ⟨_, rfl⟩, hW, hsame.mono (by decide) (by decide)⟩
        · show Steps p.tables e below (s₁.setTop (mkF m 22 #[.val (.int p0)] [])) _
          refine st9 _ ?_
          show Steps p.tables e below (T9.setTop (mkF m 25 #[.val (.int p0)] [(.ref (A 2))])) _
          jvm_step X9.here [X9.here.top, hx, (hb hby d1_25), X9.method', Bd.returns, Value.isRef, FieldType.isReference]
          first | (intro acts; rw [hr _ acts rfl rfl rfl]) | rw [hr _ _ rfl rfl rfl]
          exact Steps.refl _
        · show Q1 Z p0 A h0 n0 _ T9.heap _
          rw [e9]
          have c0 := own_isnt hc1_2 (n := 0) (by decide)
          have c1 := own_isnt hc10_5 (n := 1) (by decide)
          have c2 := own_is hc19_8 (n := 2) (by decide)
          have cn : p0.toInt = ((2 : Nat) : Int) := by omega
          exact ⟨2, rfl, N0, rfl, by decide, cn⟩
      · have K : ∀ target, Steps p.tables e below (s₁.setTop (mkF m 26 #[.val (.int p0)] [])) target → Steps p.tables e below (s₁.setTop (mkF m 19 #[.val (.int p0)] [(.int (2 : Int32)), (.int p0)])) target := by
          intro target kt
          refine XS.icmpYes X0.here hx rfl (pc0 := 19) (pc' := 26) rfl (hb hby d1_19) rfl (feq hc19_8).2 (by decide) (by decide) ?_
          exact kt
        refine Done.of ?_ K
        have K10 : ∀ target, Steps p.tables e below (s₁.setTop (mkF m 28 #[.val (.int p0)] [(.int (3 : Int32)), (.int p0)])) target → Steps p.tables e below (s₁.setTop (mkF m 26 #[.val (.int p0)] [])) target := by
          intro target kt
          show Steps p.tables e below (s₁.setTop (mkF m 26 #[.val (.int p0)] [])) _
          refine XS.iloadN X0.here hx rfl (hb hby d1_26) rfl ?_
          show Steps p.tables e below (s₁.setTop (mkF m 27 #[.val (.int p0)] [(.int p0)])) _
          refine XS.iconst X0.here hx rfl (hb hby d1_27) ?_
          exact kt
        refine Done.of ?_ K10
        by_cases hc28_11 : p0 = (3 : Int32)
        · have K : ∀ target, Steps p.tables e below (s₁.setTop (mkF m 31 #[.val (.int p0)] [])) target → Steps p.tables e below (s₁.setTop (mkF m 28 #[.val (.int p0)] [(.int (3 : Int32)), (.int p0)])) target := by
            intro target kt
            refine XS.icmpNo X0.here hx rfl (hb hby d1_28) rfl (teq hc28_11).2 ?_
            exact kt
          refine Done.of ?_ K
          obtain ⟨T12, X12, e12, st12⟩ := getS2 X0 hx hZ hown (host := "") (Or.inl (hw _ (List.mem_of_getElem? (i := 28) rfl))) Via.refl e0 S3 (g := (mkF m 31 #[.val (.int p0)] [])) rfl (hb hby d1_31)
          obtain ⟨fs, hr, hrun, hended, hW, hsame⟩ := X12.leave (v := some (.ref (A 3))) (fun h => by rw [Bd.returns] at h; cases h)
          refine ⟨_, _, ?_, hrun, hended, _, _, rfl, ?_, ⟨_, rfl⟩, hW, hsame.mono (by decide) (by decide)⟩
          · show Steps p.tables e below (s₁.setTop (mkF m 31 #[.val (.int p0)] [])) _
            refine st12 _ ?_
            show Steps p.tables e below (T12.setTop (mkF m 34 #[.val (.int p0)] [(.ref (A 3))])) _
            jvm_step X12.here [X12.here.top, hx, (hb hby d1_34), X12.method', Bd.returns, Value.isRef, FieldType.isReference]
            first | (intro acts; rw [hr _ acts rfl rfl rfl]) | rw [hr _ _ rfl rfl rfl]
            exact Steps.refl _
          · show Q1 Z p0 A h0 n0 _ T12.heap _
            rw [e12]
            have c0 := own_isnt hc1_2 (n := 0) (by decide)
            have c1 := own_isnt hc10_5 (n := 1) (by decide)
            have c2 := own_isnt hc19_8 (n := 2) (by decide)
            have c3 := own_is hc28_11 (n := 3) (by decide)
            have cn : p0.toInt = ((3 : Nat) : Int) := by omega
            exact ⟨3, rfl, N0, rfl, by decide, cn⟩
        · have K : ∀ target, Steps p.tables e below (s₁.setTop (mkF m 35 #[.val (.int p0)] [])) target → Steps p.tables e below (s₁.setTop (mkF m 28 #[.val (.int p0)] [(.int (3 : Int32)), (.int p0)])) target := by
            intro target kt
            refine XS.icmpYes X0.here hx rfl (pc0 := 28) (pc' := 35) rfl (hb hby d1_28) rfl (feq hc28_11).2 (by decide) (by decide) ?_
            exact kt
          refine Done.of ?_ K
          have K13 : ∀ target, Steps p.tables e below (s₁.setTop (mkF m 37 #[.val (.int p0)] [(.int (4 : Int32)), (.int p0)])) target → Steps p.tables e below (s₁.setTop (mkF m 35 #[.val (.int p0)] [])) target := by
            intro target kt
            show Steps p.tables e below (s₁.setTop (mkF m 35 #[.val (.int p0)] [])) _
            refine XS.iloadN X0.here hx rfl (hb hby d1_35) rfl ?_
            show Steps p.tables e below (s₁.setTop (mkF m 36 #[.val (.int p0)] [(.int p0)])) _
            refine XS.iconst X0.here hx rfl (hb hby d1_36) ?_
            exact kt
          refine Done.of ?_ K13
          by_cases hc37_14 : p0 = (4 : Int32)
          · have K : ∀ target, Steps p.tables e below (s₁.setTop (mkF m 40 #[.val (.int p0)] [])) target → Steps p.tables e below (s₁.setTop (mkF m 37 #[.val (.int p0)] [(.int (4 : Int32)), (.int p0)])) target := by
              intro target kt
              refine XS.icmpNo X0.here hx rfl (hb hby d1_37) rfl (teq hc37_14).2 ?_
              exact kt
            refine Done.of ?_ K
            obtain ⟨T15, X15, e15, st15⟩ := getS2 X0 hx hZ hown (host := "") (Or.inl (hw _ (List.mem_of_getElem? (i := 32) rfl))) Via.refl e0 S4 (g := (mkF m 40 #[.val (.int p0)] [])) rfl (hb hby d1_40)
            obtain ⟨fs, hr, hrun, hended, hW, hsame⟩ := X15.leave (v := some (.ref (A 4))) (fun h => by rw [Bd.returns] at h; cases h)
            refine ⟨_, _, ?_, hrun, hended, _, _, rfl, ?_, ⟨_, rfl⟩, hW, hsame.mono (by decide) (by decide)⟩
            · show Steps p.tables e below (s₁.setTop (mkF m 40 #[.val (.int p0)] [])) _
              refine st15 _ ?_
              show Steps p.tables e below (T15.setTop (mkF m 43 #[.val (.int p0)] [(.ref (A 4))])) _
              jvm_step X15.here [X15.here.top, hx, (hb hby d1_43), X15.method', Bd.returns, Value.isRef, FieldType.isReference]
              first | (intro acts; rw [hr _ acts rfl rfl rfl]) | rw [hr _ _ rfl rfl rfl]
              exact Steps.refl _
            · show Q1 Z p0 A h0 n0 _ T15.heap _
              rw [e15]
              have c0 := own_isnt hc1_2 (n := 0) (by decide)
              have c1 := own_isnt hc10_5 (n := 1) (by decide)
              have c2 := own_isnt hc19_8 (n := 2) (by decide)
              have c3 := own_isnt hc28_11 (n := 3) (by decide)
              have c4 := own_is hc37_14 (n := 4) (by decide)
              have cn : p0.toInt = ((4 : Nat) : Int) := by omega
              exact ⟨4, rfl, N0, rfl, by decide, cn⟩
          · have K : ∀ target, Steps p.tables e below (s₁.setTop (mkF m 44 #[.val (.int p0)] [])) target → Steps p.tables e below (s₁.setTop (mkF m 37 #[.val (.int p0)] [(.int (4 : Int32)), (.int p0)])) target := by
              intro target kt
              refine XS.icmpYes X0.here hx rfl (pc0 := 37) (pc' := 44) rfl (hb hby d1_37) rfl (feq hc37_14).2 (by decide) (by decide) ?_
              exact kt
            refine Done.of ?_ K
            have K16 : ∀ target, Steps p.tables e below (s₁.setTop (mkF m 46 #[.val (.int p0)] [(.int (5 : Int32)), (.int p0)])) target → Steps p.tables e below (s₁.setTop (mkF m 44 #[.val (.int p0)] [])) target := by
              intro target kt
              show Steps p.tables e below (s₁.setTop (mkF m 44 #[.val (.int p0)] [])) _
              refine XS.iloadN X0.here hx rfl (hb hby d1_44) rfl ?_
              show Steps p.tables e below (s₁.setTop (mkF m 45 #[.val (.int p0)] [(.int p0)])) _
              refine XS.iconst X0.here hx rfl (hb hby d1_45) ?_
              exact kt
            refine Done.of ?_ K16
            by_cases hc46_17 : p0 = (5 : Int32)
            · have K : ∀ target, Steps p.tables e below (s₁.setTop (mkF m 49 #[.val (.int p0)] [])) target → Steps p.tables e below (s₁.setTop (mkF m 46 #[.val (.int p0)] [(.int (5 : Int32)), (.int p0)])) target := by
                intro target kt
                refine XS.icmpNo X0.here hx rfl (hb hby d1_46) rfl (teq hc46_17).2 ?_
                exact kt
              refine Done.of ?_ K
              obtain ⟨T18, X18, e18, st18⟩ := getS2 X0 hx hZ hown (host := "") (Or.inl (hw _ (List.mem_of_getElem? (i := 34) rfl))) Via.refl e0 S5 (g := (mkF m 49 #[.val (.int p0)] [])) rfl (hb hby d1_49)
              obtain ⟨fs, hr, hrun, hended, hW, hsame⟩ := X18.leave (v := some (.ref (A 5))) (fun h => by rw [Bd.returns] at h; cases h)
              refine ⟨_, _, ?_, hrun, hended, _, _, rfl, ?_, ⟨_, rfl⟩, hW, hsame.mono (by decide) (by decide)⟩
              · show Steps p.tables e below (s₁.setTop (mkF m 49 #[.val (.int p0)] [])) _
                refine st18 _ ?_
                show Steps p.tables e below (T18.setTop (mkF m 52 #[.val (.int p0)] [(.ref (A 5))])) _
                jvm_step X18.here [X18.here.top, hx, (hb hby d1_52), X18.method', Bd.returns, Value.isRef, FieldType.isReference]
                first | (intro acts; rw [hr _ acts rfl rfl rfl]) | rw [hr _ _ rfl rfl rfl]
                exact Steps.refl _
              · show Q1 Z p0 A h0 n0 _ T18.heap _
                rw [e18]
                have c0 := own_isnt hc1_2 (n := 0) (by decide)
                have c1 := own_isnt hc10_5 (n := 1) (by decide)
                have c2 := own_isnt hc19_8 (n := 2) (by decide)
                have c3 := own_isnt hc28_11 (n := 3) (by decide)
                have c4 := own_isnt hc37_14 (n := 4) (by decide)
                have c5 := own_is hc46_17 (n := 5) (by decide)
                have cn : p0.toInt = ((5 : Nat) : Int) := by omega
                exact ⟨5, rfl, N0, rfl, by decide, cn⟩
            · have K : ∀ target, Steps p.tables e below (s₁.setTop (mkF m 53 #[.val (.int p0)] [])) target → Steps p.tables e below (s₁.setTop (mkF m 46 #[.val (.int p0)] [(.int (5 : Int32)), (.int p0)])) target := by
                intro target kt
                refine XS.icmpYes X0.here hx rfl (pc0 := 46) (pc' := 53) rfl (hb hby d1_46) rfl (feq hc46_17).2 (by decide) (by decide) ?_
                exact kt
              refine Done.of ?_ K
              have K19 : ∀ target, Steps p.tables e below (s₁.setTop (mkF m 56 #[.val (.int p0)] [(.int (6 : Int32)), (.int p0)])) target → Steps p.tables e below (s₁.setTop (mkF m 53 #[.val (.int p0)] [])) target := by
                intro target kt
                show Steps p.tables e below (s₁.setTop (mkF m 53 #[.val (.int p0)] [])) _
                refine XS.iloadN X0.here hx rfl (hb hby d1_53) rfl ?_
                show Steps p.tables e below (s₁.setTop (mkF m 54 #[.val (.int p0)] [(.int p0)])) _
                refine XS.bipush X0.here hx rfl (hb hby d1_54) ?_
                exact kt
              refine Done.of ?_ K19
              by_cases hc56_20 : p0 = (6 : Int32)
              · have K : ∀ target, Steps p.tables e below (s₁.setTop (mkF m 59 #[.val (.int p0)] [])) target → Steps p.tables e below (s₁.setTop (mkF m 56 #[.val (.int p0)] [(.int (6 : Int32)), (.int p0)])) target := by
                  intro target kt
                  refine XS.icmpNo X0.here hx rfl (hb hby d1_56) rfl (teq hc56_20).2 ?_
                  exact kt
                refine Done.of ?_ K
                obtain ⟨T21, X21, e21, st21⟩ := getS2 X0 hx hZ hown (host := "") (Or.inl (hw _ (List.mem_of_getElem? (i := 38) rfl))) Via.refl e0 S6 (g := (mkF m 59 #[.val (.int p0)] [])) rfl (hb hby d1_59)
                obtain ⟨fs, hr, hrun, hended, hW, hsame⟩ := X21.leave (v := some (.ref (A 6))) (fun h => by rw [Bd.returns] at h; cases h)
                refine ⟨_, _, ?_, hrun, hended, _, _, rfl, ?_, ⟨_, rfl⟩, hW, hsame.mono (by decide) (by decide)⟩
                · show Steps p.tables e below (s₁.setTop (mkF m 59 #[.val (.int p0)] [])) _
                  refine st21 _ ?_
                  show Steps p.tables e below (T21.setTop (mkF m 62 #[.val (.int p0)] [(.ref (A 6))])) _
                  jvm_step X21.here [X21.here.top, hx, (hb hby d1_62), X21.method', Bd.returns, Value.isRef, FieldType.isReference]
                  first | (intro acts; rw [hr _ acts rfl rfl rfl]) | rw [hr _ _ rfl rfl rfl]
                  exact Steps.refl _
                · show Q1 Z p0 A h0 n0 _ T21.heap _
                  rw [e21]
                  have c0 := own_isnt hc1_2 (n := 0) (by decide)
                  have c1 := own_isnt hc10_5 (n := 1) (by decide)
                  have c2 := own_isnt hc19_8 (n := 2) (by decide)
                  have c3 := own_isnt hc28_11 (n := 3) (by decide)
                  have c4 := own_isnt hc37_14 (n := 4) (by decide)
                  have c5 := own_isnt hc46_17 (n := 5) (by decide)
                  have c6 := own_is hc56_20 (n := 6) (by decide)
                  have cn : p0.toInt = ((6 : Nat) : Int) := by omega
                  exact ⟨6, rfl, N0, rfl, by decide, cn⟩
              · have K : ∀ target, Steps p.tables e below (s₁.setTop (mkF m 63 #[.val (.int p0)] [])) target → Steps p.tables e below (s₁.setTop (mkF m 56 #[.val (.int p0)] [(.int (6 : Int32)), (.int p0)])) target := by
                  intro target kt
                  refine XS.icmpYes X0.here hx rfl (pc0 := 56) (pc' := 63) rfl (hb hby d1_56) rfl (feq hc56_20).2 (by decide) (by decide) ?_
                  exact kt
                refine Done.of ?_ K
                have K22 : ∀ target, Steps p.tables e below (s₁.setTop (mkF m 66 #[.val (.int p0)] [(.int (7 : Int32)), (.int p0)])) target → Steps p.tables e below (s₁.setTop (mkF m 63 #[.val (.int p0)] [])) target := by
                  intro target kt
                  show Steps p.tables e below (s₁.setTop (mkF m 63 #[.val (.int p0)] [])) _
                  refine XS.iloadN X0.here hx rfl (hb hby d1_63) rfl ?_
                  show Steps p.tables e below (s₁.setTop (mkF m 64 #[.val (.int p0)] [(.int p0)])) _
                  refine XS.bipush X0.here hx rfl (hb hby d1_64) ?_
                  exact kt
                refine Done.of ?_ K22
                by_cases hc66_23 : p0 = (7 : Int32)
                · have K : ∀ target, Steps p.tables e below (s₁.setTop (mkF m 69 #[.val (.int p0)] [])) target → Steps p.tables e below (s₁.setTop (mkF m 66 #[.val (.int p0)] [(.int (7 : Int32)), (.int p0)])) target := by
                    intro target kt
                    refine XS.icmpNo X0.here hx rfl (hb hby d1_66) rfl (teq hc66_23).2 ?_
                    exact kt
                  refine Done.of ?_ K
                  obtain ⟨T24, X24, e24, st24⟩ := getS2 X0 hx hZ hown (host := "") (Or.inl (hw _ (List.mem_of_getElem? (i := 22) rfl))) Via.refl e0 S7 (g := (mkF m 69 #[.val (.int p0)] [])) rfl (hb hby d1_69)
                  obtain ⟨fs, hr, hrun, hended, hW, hsame⟩ := X24.leave (v := some (.ref (A 7))) (fun h => by rw [Bd.returns] at h; cases h)
                  refine ⟨_, _, ?_, hrun, hended, _, _, rfl, ?_, ⟨_, rfl⟩, hW, hsame.mono (by decide) (by decide)⟩
                  · show Steps p.tables e below (s₁.setTop (mkF m 69 #[.val (.int p0)] [])) _
                    refine st24 _ ?_
                    show Steps p.tables e below (T24.setTop (mkF m 72 #[.val (.int p0)] [(.ref (A 7))])) _
                    jvm_step X24.here [X24.here.top, hx, (hb hby d1_72), X24.method', Bd.returns, Value.isRef, FieldType.isReference]
                    first | (intro acts; rw [hr _ acts rfl rfl rfl]) | rw [hr _ _ rfl rfl rfl]
                    exact Steps.refl _
                  · show Q1 Z p0 A h0 n0 _ T24.heap _
                    rw [e24]
                    have c0 := own_isnt hc1_2 (n := 0) (by decide)
                    have c1 := own_isnt hc10_5 (n := 1) (by decide)
                    have c2 := own_isnt hc19_8 (n := 2) (by decide)
                    have c3 := own_isnt hc28_11 (n := 3) (by decide)
                    have c4 := own_isnt hc37_14 (n := 4) (by decide)
                    have c5 := own_isnt hc46_17 (n := 5) (by decide)
                    have c6 := own_isnt hc56_20 (n := 6) (by decide)
                    have c7 := own_is hc66_23 (n := 7) (by decide)
                    have cn : p0.toInt = ((7 : Nat) : Int) := by omega
                    exact ⟨7, rfl, N0, rfl, by decide, cn⟩
                · have K : ∀ target, Steps p.tables e below (s₁.setTop (mkF m 73 #[.val (.int p0)] [])) target → Steps p.tables e below (s₁.setTop (mkF m 66 #[.val (.int p0)] [(.int (7 : Int32)), (.int p0)])) target := by
                    intro target kt
                    refine XS.icmpYes X0.here hx rfl (pc0 := 66) (pc' := 73) rfl (hb hby d1_66) rfl (feq hc66_23).2 (by decide) (by decide) ?_
                    exact kt
                  refine Done.of ?_ K
                  have K25 : ∀ target, Steps p.tables e below (s₁.setTop (mkF m 76 #[.val (.int p0)] [(.int (8 : Int32)), (.int p0)])) target → Steps p.tables e below (s₁.setTop (mkF m 73 #[.val (.int p0)] [])) target := by
                    intro target kt
                    show Steps p.tables e below (s₁.setTop (mkF m 73 #[.val (.int p0)] [])) _
                    refine XS.iloadN X0.here hx rfl (hb hby d1_73) rfl ?_
                    show Steps p.tables e below (s₁.setTop (mkF m 74 #[.val (.int p0)] [(.int p0)])) _
                    refine XS.bipush X0.here hx rfl (hb hby d1_74) ?_
                    exact kt
                  refine Done.of ?_ K25
                  by_cases hc76_26 : p0 = (8 : Int32)
                  · have K : ∀ target, Steps p.tables e below (s₁.setTop (mkF m 79 #[.val (.int p0)] [])) target → Steps p.tables e below (s₁.setTop (mkF m 76 #[.val (.int p0)] [(.int (8 : Int32)), (.int p0)])) target := by
                      intro target kt
                      refine XS.icmpNo X0.here hx rfl (hb hby d1_76) rfl (teq hc76_26).2 ?_
                      exact kt
                    refine Done.of ?_ K
                    obtain ⟨T27, X27, e27, st27⟩ := getS2 X0 hx hZ hown (host := "") (Or.inl (hw _ (List.mem_of_getElem? (i := 20) rfl))) Via.refl e0 S8 (g := (mkF m 79 #[.val (.int p0)] [])) rfl (hb hby d1_79)
                    obtain ⟨fs, hr, hrun, hended, hW, hsame⟩ := X27.leave (v := some (.ref (A 8))) (fun h => by rw [Bd.returns] at h; cases h)
                    refine ⟨_, _, ?_, hrun, hended, _, _, rfl, ?_, ⟨_, rfl⟩, hW, hsame.mono (by decide) (by decide)⟩
                    · show Steps p.tables e below (s₁.setTop (mkF m 79 #[.val (.int p0)] [])) _
                      refine st27 _ ?_
                      show Steps p.tables e below (T27.setTop (mkF m 82 #[.val (.int p0)] [(.ref (A 8))])) _
                      jvm_step X27.here [X27.here.top, hx, (hb hby d1_82), X27.method', Bd.returns, Value.isRef, FieldType.isReference]
                      first | (intro acts; rw [hr _ acts rfl rfl rfl]) | rw [hr _ _ rfl rfl rfl]
                      exact Steps.refl _
                    · show Q1 Z p0 A h0 n0 _ T27.heap _
                      rw [e27]
                      have c0 := own_isnt hc1_2 (n := 0) (by decide)
                      have c1 := own_isnt hc10_5 (n := 1) (by decide)
                      have c2 := own_isnt hc19_8 (n := 2) (by decide)
                      have c3 := own_isnt hc28_11 (n := 3) (by decide)
                      have c4 := own_isnt hc37_14 (n := 4) (by decide)
                      have c5 := own_isnt hc46_17 (n := 5) (by decide)
                      have c6 := own_isnt hc56_20 (n := 6) (by decide)
                      have c7 := own_isnt hc66_23 (n := 7) (by decide)
                      have c8 := own_is hc76_26 (n := 8) (by decide)
                      have cn : p0.toInt = ((8 : Nat) : Int) := by omega
                      exact ⟨8, rfl, N0, rfl, by decide, cn⟩
                  · have K : ∀ target, Steps p.tables e below (s₁.setTop (mkF m 83 #[.val (.int p0)] [])) target → Steps p.tables e below (s₁.setTop (mkF m 76 #[.val (.int p0)] [(.int (8 : Int32)), (.int p0)])) target := by
                      intro target kt
                      refine XS.icmpYes X0.here hx rfl (pc0 := 76) (pc' := 83) rfl (hb hby d1_76) rfl (feq hc76_26).2 (by decide) (by decide) ?_
                      exact kt
                    refine Done.of ?_ K
                    have K28 : ∀ target, Steps p.tables e below (s₁.setTop (mkF m 86 #[.val (.int p0)] [(.int (9 : Int32)), (.int p0)])) target → Steps p.tables e below (s₁.setTop (mkF m 83 #[.val (.int p0)] [])) target := by
                      intro target kt
                      show Steps p.tables e below (s₁.setTop (mkF m 83 #[.val (.int p0)] [])) _
                      refine XS.iloadN X0.here hx rfl (hb hby d1_83) rfl ?_
                      show Steps p.tables e below (s₁.setTop (mkF m 84 #[.val (.int p0)] [(.int p0)])) _
                      refine XS.bipush X0.here hx rfl (hb hby d1_84) ?_
                      exact kt
                    refine Done.of ?_ K28
                    by_cases hc86_29 : p0 = (9 : Int32)
                    · have K : ∀ target, Steps p.tables e below (s₁.setTop (mkF m 89 #[.val (.int p0)] [])) target → Steps p.tables e below (s₁.setTop (mkF m 86 #[.val (.int p0)] [(.int (9 : Int32)), (.int p0)])) target := by
                        intro target kt
                        refine XS.icmpNo X0.here hx rfl (hb hby d1_86) rfl (teq hc86_29).2 ?_
                        exact kt
                      refine Done.of ?_ K
                      obtain ⟨T30, X30, e30, st30⟩ := getS2 X0 hx hZ hown (host := "") (Or.inl (hw _ (List.mem_of_getElem? (i := 40) rfl))) Via.refl e0 S9 (g := (mkF m 89 #[.val (.int p0)] [])) rfl (hb hby d1_89)
                      obtain ⟨fs, hr, hrun, hended, hW, hsame⟩ := X30.leave (v := some (.ref (A 9))) (fun h => by rw [Bd.returns] at h; cases h)
                      refine ⟨_, _, ?_, hrun, hended, _, _, rfl, ?_, ⟨_, rfl⟩, hW, hsame.mono (by decide) (by decide)⟩
                      · show Steps p.tables e below (s₁.setTop (mkF m 89 #[.val (.int p0)] [])) _
                        refine st30 _ ?_
                        show Steps p.tables e below (T30.setTop (mkF m 92 #[.val (.int p0)] [(.ref (A 9))])) _
                        jvm_step X30.here [X30.here.top, hx, (hb hby d1_92), X30.method', Bd.returns, Value.isRef, FieldType.isReference]
                        first | (intro acts; rw [hr _ acts rfl rfl rfl]) | rw [hr _ _ rfl rfl rfl]
                        exact Steps.refl _
                      · show Q1 Z p0 A h0 n0 _ T30.heap _
                        rw [e30]
                        have c0 := own_isnt hc1_2 (n := 0) (by decide)
                        have c1 := own_isnt hc10_5 (n := 1) (by decide)
                        have c2 := own_isnt hc19_8 (n := 2) (by decide)
                        have c3 := own_isnt hc28_11 (n := 3) (by decide)
                        have c4 := own_isnt hc37_14 (n := 4) (by decide)
                        have c5 := own_isnt hc46_17 (n := 5) (by decide)
                        have c6 := own_isnt hc56_20 (n := 6) (by decide)
                        have c7 := own_isnt hc66_23 (n := 7) (by decide)
                        have c8 := own_isnt hc76_26 (n := 8) (by decide)
                        have c9 := own_is hc86_29 (n := 9) (by decide)
                        have cn : p0.toInt = ((9 : Nat) : Int) := by omega
                        exact ⟨9, rfl, N0, rfl, by decide, cn⟩
                    · have K : ∀ target, Steps p.tables e below (s₁.setTop (mkF m 93 #[.val (.int p0)] [])) target → Steps p.tables e below (s₁.setTop (mkF m 86 #[.val (.int p0)] [(.int (9 : Int32)), (.int p0)])) target := by
                        intro target kt
                        refine XS.icmpYes X0.here hx rfl (pc0 := 86) (pc' := 93) rfl (hb hby d1_86) rfl (feq hc86_29).2 (by decide) (by decide) ?_
                        exact kt
                      refine Done.of ?_ K
                      have K31 : ∀ target, Steps p.tables e below (s₁.setTop (mkF m 96 #[.val (.int p0)] [(.int (10 : Int32)), (.int p0)])) target → Steps p.tables e below (s₁.setTop (mkF m 93 #[.val (.int p0)] [])) target := by
                        intro target kt
                        show Steps p.tables e below (s₁.setTop (mkF m 93 #[.val (.int p0)] [])) _
                        refine XS.iloadN X0.here hx rfl (hb hby d1_93) rfl ?_
                        show Steps p.tables e below (s₁.setTop (mkF m 94 #[.val (.int p0)] [(.int p0)])) _
                        refine XS.bipush X0.here hx rfl (hb hby d1_94) ?_
                        exact kt
                      refine Done.of ?_ K31
                      by_cases hc96_32 : p0 = (10 : Int32)
                      · have K : ∀ target, Steps p.tables e below (s₁.setTop (mkF m 99 #[.val (.int p0)] [])) target → Steps p.tables e below (s₁.setTop (mkF m 96 #[.val (.int p0)] [(.int (10 : Int32)), (.int p0)])) target := by
                          intro target kt
                          refine XS.icmpNo X0.here hx rfl (hb hby d1_96) rfl (teq hc96_32).2 ?_
                          exact kt
                        refine Done.of ?_ K
                        obtain ⟨T33, X33, e33, st33⟩ := getS2 X0 hx hZ hown (host := "") (Or.inl (hw _ (List.mem_of_getElem? (i := 24) rfl))) Via.refl e0 S10 (g := (mkF m 99 #[.val (.int p0)] [])) rfl (hb hby d1_99)
                        obtain ⟨fs, hr, hrun, hended, hW, hsame⟩ := X33.leave (v := some (.ref (A 10))) (fun h => by rw [Bd.returns] at h; cases h)
                        refine ⟨_, _, ?_, hrun, hended, _, _, rfl, ?_, ⟨_, rfl⟩, hW, hsame.mono (by decide) (by decide)⟩
                        · show Steps p.tables e below (s₁.setTop (mkF m 99 #[.val (.int p0)] [])) _
                          refine st33 _ ?_
                          show Steps p.tables e below (T33.setTop (mkF m 102 #[.val (.int p0)] [(.ref (A 10))])) _
                          jvm_step X33.here [X33.here.top, hx, (hb hby d1_102), X33.method', Bd.returns, Value.isRef, FieldType.isReference]
                          first | (intro acts; rw [hr _ acts rfl rfl rfl]) | rw [hr _ _ rfl rfl rfl]
                          exact Steps.refl _
                        · show Q1 Z p0 A h0 n0 _ T33.heap _
                          rw [e33]
                          have c0 := own_isnt hc1_2 (n := 0) (by decide)
                          have c1 := own_isnt hc10_5 (n := 1) (by decide)
                          have c2 := own_isnt hc19_8 (n := 2) (by decide)
                          have c3 := own_isnt hc28_11 (n := 3) (by decide)
                          have c4 := own_isnt hc37_14 (n := 4) (by decide)
                          have c5 := own_isnt hc46_17 (n := 5) (by decide)
                          have c6 := own_isnt hc56_20 (n := 6) (by decide)
                          have c7 := own_isnt hc66_23 (n := 7) (by decide)
                          have c8 := own_isnt hc76_26 (n := 8) (by decide)
                          have c9 := own_isnt hc86_29 (n := 9) (by decide)
                          have c10 := own_is hc96_32 (n := 10) (by decide)
                          have cn : p0.toInt = ((10 : Nat) : Int) := by omega
                          exact ⟨10, rfl, N0, rfl, by decide, cn⟩
                      · have K : ∀ target, Steps p.tables e below (s₁.setTop (mkF m 103 #[.val (.int p0)] [])) target → Steps p.tables e below (s₁.setTop (mkF m 96 #[.val (.int p0)] [(.int (10 : Int32)), (.int p0)])) target := by
                          intro target kt
                          refine XS.icmpYes X0.here hx rfl (pc0 := 96) (pc' := 103) rfl (hb hby d1_96) rfl (feq hc96_32).2 (by decide) (by decide) ?_
                          exact kt
                        refine Done.of ?_ K
                        have K34 : ∀ target, Steps p.tables e below (s₁.setTop (mkF m 106 #[.val (.int p0)] [(.int (11 : Int32)), (.int p0)])) target → Steps p.tables e below (s₁.setTop (mkF m 103 #[.val (.int p0)] [])) target := by
                          intro target kt
                          show Steps p.tables e below (s₁.setTop (mkF m 103 #[.val (.int p0)] [])) _
                          refine XS.iloadN X0.here hx rfl (hb hby d1_103) rfl ?_
                          show Steps p.tables e below (s₁.setTop (mkF m 104 #[.val (.int p0)] [(.int p0)])) _
                          refine XS.bipush X0.here hx rfl (hb hby d1_104) ?_
                          exact kt
                        refine Done.of ?_ K34
                        by_cases hc106_35 : p0 = (11 : Int32)
                        · have K : ∀ target, Steps p.tables e below (s₁.setTop (mkF m 109 #[.val (.int p0)] [])) target → Steps p.tables e below (s₁.setTop (mkF m 106 #[.val (.int p0)] [(.int (11 : Int32)), (.int p0)])) target := by
                            intro target kt
                            refine XS.icmpNo X0.here hx rfl (hb hby d1_106) rfl (teq hc106_35).2 ?_
                            exact kt
                          refine Done.of ?_ K
                          obtain ⟨T36, X36, e36, st36⟩ := getS2 X0 hx hZ hown (host := "") (Or.inl (hw _ (List.mem_of_getElem? (i := 26) rfl))) Via.refl e0 S11 (g := (mkF m 109 #[.val (.int p0)] [])) rfl (hb hby d1_109)
                          obtain ⟨fs, hr, hrun, hended, hW, hsame⟩ := X36.leave (v := some (.ref (A 11))) (fun h => by rw [Bd.returns] at h; cases h)
                          refine ⟨_, _, ?_, hrun, hended, _, _, rfl, ?_, ⟨_, rfl⟩, hW, hsame.mono (by decide) (by decide)⟩
                          · show Steps p.tables e below (s₁.setTop (mkF m 109 #[.val (.int p0)] [])) _
                            refine st36 _ ?_
                            show Steps p.tables e below (T36.setTop (mkF m 112 #[.val (.int p0)] [(.ref (A 11))])) _
                            jvm_step X36.here [X36.here.top, hx, (hb hby d1_112), X36.method', Bd.returns, Value.isRef, FieldType.isReference]
                            first | (intro acts; rw [hr _ acts rfl rfl rfl]) | rw [hr _ _ rfl rfl rfl]
                            exact Steps.refl _
                          · show Q1 Z p0 A h0 n0 _ T36.heap _
                            rw [e36]
                            have c0 := own_isnt hc1_2 (n := 0) (by decide)
                            have c1 := own_isnt hc10_5 (n := 1) (by decide)
                            have c2 := own_isnt hc19_8 (n := 2) (by decide)
                            have c3 := own_isnt hc28_11 (n := 3) (by decide)
                            have c4 := own_isnt hc37_14 (n := 4) (by decide)
                            have c5 := own_isnt hc46_17 (n := 5) (by decide)
                            have c6 := own_isnt hc56_20 (n := 6) (by decide)
                            have c7 := own_isnt hc66_23 (n := 7) (by decide)
                            have c8 := own_isnt hc76_26 (n := 8) (by decide)
                            have c9 := own_isnt hc86_29 (n := 9) (by decide)
                            have c10 := own_isnt hc96_32 (n := 10) (by decide)
                            have c11 := own_is hc106_35 (n := 11) (by decide)
                            have cn : p0.toInt = ((11 : Nat) : Int) := by omega
                            exact ⟨11, rfl, N0, rfl, by decide, cn⟩
                        · have K : ∀ target, Steps p.tables e below (s₁.setTop (mkF m 113 #[.val (.int p0)] [])) target → Steps p.tables e below (s₁.setTop (mkF m 106 #[.val (.int p0)] [(.int (11 : Int32)), (.int p0)])) target := by
                            intro target kt
                            refine XS.icmpYes X0.here hx rfl (pc0 := 106) (pc' := 113) rfl (hb hby d1_106) rfl (feq hc106_35).2 (by decide) (by decide) ?_
                            exact kt
                          refine Done.of ?_ K
                          obtain ⟨T37, X37, e37, st37⟩ := getS2 X0 hx hZ hown (host := "") (Or.inl (hw _ (List.mem_of_getElem? (i := 30) rfl))) Via.refl e0 S12 (g := (mkF m 113 #[.val (.int p0)] [])) rfl (hb hby d1_113)
                          obtain ⟨fs, hr, hrun, hended, hW, hsame⟩ := X37.leave (v := some (.ref (A 12))) (fun h => by rw [Bd.returns] at h; cases h)
                          refine ⟨_, _, ?_, hrun, hended, _, _, rfl, ?_, ⟨_, rfl⟩, hW, hsame.mono (by decide) (by decide)⟩
                          · show Steps p.tables e below (s₁.setTop (mkF m 113 #[.val (.int p0)] [])) _
                            refine st37 _ ?_
                            show Steps p.tables e below (T37.setTop (mkF m 116 #[.val (.int p0)] [(.ref (A 12))])) _
                            jvm_step X37.here [X37.here.top, hx, (hb hby d1_116), X37.method', Bd.returns, Value.isRef, FieldType.isReference]
                            first | (intro acts; rw [hr _ acts rfl rfl rfl]) | rw [hr _ _ rfl rfl rfl]
                            exact Steps.refl _
                          · show Q1 Z p0 A h0 n0 _ T37.heap _
                            rw [e37]
                            have c0 := own_isnt hc1_2 (n := 0) (by decide)
                            have c1 := own_isnt hc10_5 (n := 1) (by decide)
                            have c2 := own_isnt hc19_8 (n := 2) (by decide)
                            have c3 := own_isnt hc28_11 (n := 3) (by decide)
                            have c4 := own_isnt hc37_14 (n := 4) (by decide)
                            have c5 := own_isnt hc46_17 (n := 5) (by decide)
                            have c6 := own_isnt hc56_20 (n := 6) (by decide)
                            have c7 := own_isnt hc66_23 (n := 7) (by decide)
                            have c8 := own_isnt hc76_26 (n := 8) (by decide)
                            have c9 := own_isnt hc86_29 (n := 9) (by decide)
                            have c10 := own_isnt hc96_32 (n := 10) (by decide)
                            have c11 := own_isnt hc106_35 (n := 11) (by decide)
                            have cn : p0.toInt = ((12 : Nat) : Int) := by omega
                            exact ⟨12, rfl, N0, rfl, by decide, cn⟩
theorem d2_0 : decode prog_1_method_5_code 0 = .ok (.iload_n 1, 1) := by decide +kernel
theorem d2_1 : decode prog_1_method_5_code 1 = .ok (.aload_n 0, 1) := by decide +kernel
theorem d2_2 : decode prog_1_method_5_code 2 = .ok (.getfield 66, 3) := by decide +kernel
theorem d2_5 : decode prog_1_method_5_code 5 = .ok (.if_icmp .lt 15, 3) := by decide +kernel
theorem d2_8 : decode prog_1_method_5_code 8 = .ok (.iload_n 1, 1) := by decide +kernel
theorem d2_9 : decode prog_1_method_5_code 9 = .ok (.aload_n 0, 1) := by decide +kernel
theorem d2_10 : decode prog_1_method_5_code 10 = .ok (.getfield 69, 3) := by decide +kernel
theorem d2_13 : decode prog_1_method_5_code 13 = .ok (.if_icmp .gt 7, 3) := by decide +kernel
theorem d2_16 : decode prog_1_method_5_code 16 = .ok (.iconst 1, 1) := by decide +kernel
theorem d2_17 : decode prog_1_method_5_code 17 = .ok (.goto 4, 3) := by decide +kernel
theorem d2_20 : decode prog_1_method_5_code 20 = .ok (.iconst 0, 1) := by decide +kernel
theorem d2_21 : decode prog_1_method_5_code 21 = .ok (.ireturn, 1) := by decide +kernel
theorem pn_2 : plainName "com/example/brokerwire/brokerwire/ApiKey" = true := by first | (simp [plainName, overriddenIn]; done) | decide +kernel
theorem ef_2 (m : MethodId) (u0 : Addr) (p1 : Int32)  : entryFrame m #[(.ref u0), (.int p1)] 2 = mkF m 0 #[.val (.ref u0), .val (.int p1)] [] := by first | (simp [entryFrame, mkF, argsToLocals, Value.category]; done) | rfl
def Q2 (Z : State) (u0 : Addr) (p1 : Int32) (w1 : Int32) (w2 : Int32) (h0 : Heap) (n0 : Nat) (v : Option Value) (h : Heap) (L : List Loc) : Prop := v = some (.int (if p1 < w1 then (0 : Int32) else (if w2 < p1 then (0 : Int32) else (1 : Int32)))) ∧ Fr n0 L ∧ h = h0
set_option maxRecDepth 65536 in
set_option maxHeartbeats 40000000 in
theorem rm2 (l : Launch) (Z : State) (a0 : Array Value) (hw : ∀ d ∈ tables_1, d.before a0 Z = true) (ws : List Jvm.Cond) (u0 : Addr) (p1 : Int32) (w1 : Int32) (w2 : Int32) (h0 : Heap) (n0 : Nat) (Z0 : n0 ≤ h0.size) (F_minVersion : Fld Z h0 u0 "com/example/brokerwire/brokerwire/ApiKey" "minVersion" "S" (.int w1)) (F_maxVersion : Fld Z h0 u0 "com/example/brokerwire/brokerwire/ApiKey" "maxVersion" "S" (.int w2)) :
    MetFree l (⟨"com/example/brokerwire/brokerwire/ApiKey", "implementsVersion", "(S)Z"⟩ : MethodName) (head1 (Jvm.Cond.code (⟨"com/example/brokerwire/brokerwire/ApiKey", "implementsVersion", "(S)Z"⟩ : MethodName) prog_1_method_5_code 2 (some .boolean) :: ws) ({ frames := 0, cells := 0, slots := 0, locals := 0 } : Room)) (fun a U => a = #[(.ref u0), (.int p1)] ∧ Z.Warmed39 U.vm ∧ U.heap = h0) (fun _ _ _ _ _ => True) (fun _ U o U' => ∃ v L, o = .returned v ∧ Q2 Z u0 p1 w1 w2 h0 n0 v U'.heap L ∧ FrameEnd U o U' L ({ frames := 0, cells := 0, slots := 0, locals := 0 } : Room).cells ({ frames := 0, cells := 0, slots := 0, locals := 0 } : Room).slots) := by
  refine MetFree.of_bodySF (plainFor_of_name pn_2) hisR ?_
  intro p e s m args below meth c s₁ Bd hml0 hP hK
  obtain ⟨rfl, hZ, hh⟩ := hP
  have hx := Bd.exec
  have hby := Bd.bytes
  have hml : c.maxLocals = 2 := hml0
  have hown : s.vm.findClass "com/example/brokerwire/brokerwire/ApiKey" = some m.cls := findClass_of_methodNamed Bd.named
  have hnm := (name_of_methodNamed Bd.named Bd.method).1
  have X0 : Stand p l e ({ frames := 0, cells := 0, slots := 0, locals := 0 } : Room) s m #[(.ref u0), (.int p1)] below meth c s₁ [] 0 0 := Stand.of_body Bd
  have e0 : s₁.heap = h0 := by rw [← hh, Bd.state]; rfl
  have N0 := Fr.nil n0
  have pre0 : ∀ t, Steps p.tables e below (s₁.setTop (mkF m 0 #[.val (.ref u0), .val (.int p1)] [])) t → Steps p.tables e below (s₁.setTop (entryFrame m #[(.ref u0), (.int p1)] 2)) t := fun t k => castTop (ef_2 m u0 p1) k
  show Done p e below _ _
  refine Done.of ?_ pre0
  obtain ⟨T1, X1, e1, st1⟩ := getF X0 hx hZ hown (host := "") (Or.inl (hw _ (List.mem_of_getElem? (i := 14) rfl))) Via.refl e0 F_minVersion (g := (mkF m 2 #[.val (.ref u0), .val (.int p1)] [(.ref u0), (.int p1)])) rfl rfl (hb hby d2_2)
  have K2 : ∀ target, Steps p.tables e below (T1.setTop (mkF m 5 #[.val (.ref u0), .val (.int p1)] [(.int w1), (.int p1)])) target → Steps p.tables e below (s₁.setTop (mkF m 0 #[.val (.ref u0), .val (.int p1)] [])) target := by
    intro target kt
    show Steps p.tables e below (s₁.setTop (mkF m 0 #[.val (.ref u0), .val (.int p1)] [])) _
    refine XS.iloadN X0.here hx rfl (hb hby d2_0) rfl ?_
    show Steps p.tables e below (s₁.setTop (mkF m 1 #[.val (.ref u0), .val (.int p1)] [(.int p1)])) _
    refine XS.aloadN X0.here hx rfl (hb hby d2_1) rfl rfl ?_
    show Steps p.tables e below (s₁.setTop (mkF m 2 #[.val (.ref u0), .val (.int p1)] [(.ref u0), (.int p1)])) _
    refine st1 _ ?_
    exact kt
  refine Done.of ?_ K2
  by_cases hc5_3 : p1 < w1
  · have K : ∀ target, Steps p.tables e below (T1.setTop (mkF m 20 #[.val (.ref u0), .val (.int p1)] [])) target → Steps p.tables e below (T1.setTop (mkF m 5 #[.val (.ref u0), .val (.int p1)] [(.int w1), (.int p1)])) target := by
      intro target kt
      refine XS.icmpYes X1.here hx rfl (pc0 := 5) (pc' := 20) rfl (hb hby d2_5) rfl (tlt hc5_3).1 (by decide) (by decide) ?_
      exact kt
    refine Done.of ?_ K
    obtain ⟨fs, hr, hrun, hended, hW, hsame⟩ := X1.leave (v := some (.int (0 : Int32))) (fun h => by rw [Bd.returns] at h; cases h)
    refine ⟨_, _, ?_, hrun, hended, _, _, rfl, ?_, ⟨_, rfl⟩, hW, hsame.mono (by decide) (by decide)⟩
    · show Steps p.tables e below (T1.setTop (mkF m 20 #[.val (.ref u0), .val (.int p1)] [])) _
      refine XS.iconst X1.here hx rfl (hb hby d2_20) ?_
      show Steps p.tables e below (T1.setTop (mkF m 21 #[.val (.ref u0), .val (.int p1)] [(.int (0 : Int32))])) _
      exact retN X1 hx (t := .boolean) Bd.returns (by simp) (hb hby d2_21) hr
    · show Q2 Z u0 p1 w1 w2 h0 n0 _ T1.heap _
      rw [e1]
      refine ⟨?_, N0, rfl⟩
      (simp only [if_pos hc5_3])
  · have K : ∀ target, Steps p.tables e below (T1.setTop (mkF m 8 #[.val (.ref u0), .val (.int p1)] [])) target → Steps p.tables e below (T1.setTop (mkF m 5 #[.val (.ref u0), .val (.int p1)] [(.int w1), (.int p1)])) target := by
      intro target kt
      refine XS.icmpNo X1.here hx rfl (hb hby d2_5) rfl (flt hc5_3).1 ?_
      exact kt
    refine Done.of ?_ K
    obtain ⟨T4, X4, e4, st4⟩ := getF X1 hx hZ hown (host := "") (Or.inl (hw _ (List.mem_of_getElem? (i := 16) rfl))) Via.refl e1 F_maxVersion (g := (mkF m 10 #[.val (.ref u0), .val (.int p1)] [(.ref u0), (.int p1)])) rfl rfl (hb hby d2_10)
    have J13_5 : ∀ wj : Int32, wj = (if w2 < p1 then (0 : Int32) else (1 : Int32)) → ∀ target, Steps p.tables e below (T4.setTop (mkF m 21 #[.val (.ref u0), .val (.int p1)] [(.int wj)])) target → Steps p.tables e below (T4.setTop (mkF m 13 #[.val (.ref u0), .val (.int p1)] [(.int w2), (.int p1)])) target := by
      intro wj hw0 target kt
      by_cases hj13 : w2 < p1
      · rw [if_pos hj13] at hw0
        show Steps p.tables e below (T4.setTop (mkF m 13 #[.val (.ref u0), .val (.int p1)] [(.int w2), (.int p1)])) _
        refine XS.icmpYes X4.here hx rfl (pc0 := 13) (pc' := 20) rfl (hb hby d2_13) rfl (tlt hj13).2.2.1 (by decide) (by decide) ?_
        show Steps p.tables e below (T4.setTop (mkF m 20 #[.val (.ref u0), .val (.int p1)] [])) _
        refine XS.iconst X4.here hx rfl (hb hby d2_20) ?_
        rw [hw0] at kt
        exact kt
      · rw [if_neg hj13] at hw0
        show Steps p.tables e below (T4.setTop (mkF m 13 #[.val (.ref u0), .val (.int p1)] [(.int w2), (.int p1)])) _
        refine XS.icmpNo X4.here hx rfl (hb hby d2_13) rfl (flt hj13).2.2.1 ?_
        show Steps p.tables e below (T4.setTop (mkF m 16 #[.val (.ref u0), .val (.int p1)] [])) _
        refine XS.iconst X4.here hx rfl (hb hby d2_16) ?_
        show Steps p.tables e below (T4.setTop (mkF m 17 #[.val (.ref u0), .val (.int p1)] [(.int (1 : Int32))])) _
        refine XS.goto X4.here hx rfl (pc0 := 17) (pc' := 21) rfl (hb hby d2_17) (by decide) (by decide) ?_
        rw [hw0] at kt
        exact kt
    obtain ⟨fs, hr, hrun, hended, hW, hsame⟩ := X4.leave (v := some (.int (nar .boolean (if w2 < p1 then (0 : Int32) else (1 : Int32))))) (fun h => by rw [Bd.returns] at h; cases h)
    refine ⟨_, _, ?_, hrun, hended, _, _, rfl, ?_, ⟨_, rfl⟩, hW, hsame.mono (by decide) (by decide)⟩
    · show Steps p.tables e below (T1.setTop (mkF m 8 #[.val (.ref u0), .val (.int p1)] [])) _
      refine XS.iloadN X1.here hx rfl (hb hby d2_8) rfl ?_
      show Steps p.tables e below (T1.setTop (mkF m 9 #[.val (.ref u0), .val (.int p1)] [(.int p1)])) _
      refine XS.aloadN X1.here hx rfl (hb hby d2_9) rfl rfl ?_
      show Steps p.tables e below (T1.setTop (mkF m 10 #[.val (.ref u0), .val (.int p1)] [(.ref u0), (.int p1)])) _
      refine st4 _ ?_
      show Steps p.tables e below (T4.setTop (mkF m 13 #[.val (.ref u0), .val (.int p1)] [(.int w2), (.int p1)])) _
      refine J13_5 _ rfl _ ?_
      show Steps p.tables e below (T4.setTop (mkF m 21 #[.val (.ref u0), .val (.int p1)] [(.int (if w2 < p1 then (0 : Int32) else (1 : Int32)))])) _
      exact retN X4 hx (t := .boolean) Bd.returns (by simp) (hb hby d2_21) hr
    · show Q2 Z u0 p1 w1 w2 h0 n0 _ T4.heap _
      rw [e4]
      refine ⟨?_, N0, rfl⟩
      (simp only [if_neg hc5_3] <;> (repeat' split) <;> rfl)
theorem pn_0 : plainName "com/example/brokerwire/brokerwire/ApiKeyImplementsVersionPinLaw" = true := by first | (simp [plainName, overriddenIn]; done) | decide +kernel
theorem pd_0 : parseMethodDescriptor "(I)Lcom/example/brokerwire/brokerwire/ApiKey;" = some ⟨[.int], some (.object "com/example/brokerwire/brokerwire/ApiKey")⟩ := by decide +kernel
theorem pd_1 : parseMethodDescriptor "(S)Z" = some ⟨[.short], some .boolean⟩ := by decide +kernel
theorem ef_0 (m : MethodId) (p0 : Int32) (p1 : Int32) (p2 : Int32)  : entryFrame m #[(.int p0), (.int p1), (.int p2)] maxLocals = mkF m 0 #[.val (.int p0), .val (.int p1), .val (.int p2), .unset, .unset, .unset, .unset, .unset, .unset, .unset, .unset, .unset, .unset] [] := by first | (simp [entryFrame, mkF, argsToLocals, Value.category, maxLocals]; done) | rfl
def Q0 (Z : State) (p0 : Int32) (p1 : Int32) (p2 : Int32) (A : Nat → Addr) (h0 : Heap) (n0 : Nat) (v : Option Value) (h : Heap) (L : List Loc) : Prop := v = some (.int 1) ∧ Fr n0 L
set_option maxRecDepth 65536 in
set_option maxHeartbeats 40000000 in
theorem rm0 (l : Launch) (Z : State) (a0 : Array Value) (hw : ∀ d ∈ tables_1, d.before a0 Z = true) (ws : List Jvm.Cond) (p0 : Int32) (p1 : Int32) (p2 : Int32) (A : Nat → Addr) (h0 : Heap) (n0 : Nat) (Z0 : n0 ≤ h0.size) (S0 : Sta Z h0 "com/example/brokerwire/brokerwire/ApiKey" "PRODUCE" "Lcom/example/brokerwire/brokerwire/ApiKey;" (.ref (A 0))) (S1 : Sta Z h0 "com/example/brokerwire/brokerwire/ApiKey" "FETCH" "Lcom/example/brokerwire/brokerwire/ApiKey;" (.ref (A 1))) (S2 : Sta Z h0 "com/example/brokerwire/brokerwire/ApiKey" "LIST_OFFSETS" "Lcom/example/brokerwire/brokerwire/ApiKey;" (.ref (A 2))) (S3 : Sta Z h0 "com/example/brokerwire/brokerwire/ApiKey" "METADATA" "Lcom/example/brokerwire/brokerwire/ApiKey;" (.ref (A 3))) (S4 : Sta Z h0 "com/example/brokerwire/brokerwire/ApiKey" "OFFSET_COMMIT" "Lcom/example/brokerwire/brokerwire/ApiKey;" (.ref (A 4))) (S5 : Sta Z h0 "com/example/brokerwire/brokerwire/ApiKey" "OFFSET_FETCH" "Lcom/example/brokerwire/brokerwire/ApiKey;" (.ref (A 5))) (S6 : Sta Z h0 "com/example/brokerwire/brokerwire/ApiKey" "FIND_COORDINATOR" "Lcom/example/brokerwire/brokerwire/ApiKey;" (.ref (A 6))) (S7 : Sta Z h0 "com/example/brokerwire/brokerwire/ApiKey" "JOIN_GROUP" "Lcom/example/brokerwire/brokerwire/ApiKey;" (.ref (A 7))) (S8 : Sta Z h0 "com/example/brokerwire/brokerwire/ApiKey" "HEARTBEAT" "Lcom/example/brokerwire/brokerwire/ApiKey;" (.ref (A 8))) (S9 : Sta Z h0 "com/example/brokerwire/brokerwire/ApiKey" "LEAVE_GROUP" "Lcom/example/brokerwire/brokerwire/ApiKey;" (.ref (A 9))) (S10 : Sta Z h0 "com/example/brokerwire/brokerwire/ApiKey" "SYNC_GROUP" "Lcom/example/brokerwire/brokerwire/ApiKey;" (.ref (A 10))) (S11 : Sta Z h0 "com/example/brokerwire/brokerwire/ApiKey" "API_VERSIONS" "Lcom/example/brokerwire/brokerwire/ApiKey;" (.ref (A 11))) (S12 : Sta Z h0 "com/example/brokerwire/brokerwire/ApiKey" "CREATE_TOPICS" "Lcom/example/brokerwire/brokerwire/ApiKey;" (.ref (A 12))) (EA : ∀ i, i < 13 → Exa Z h0 (A i) "com/example/brokerwire/brokerwire/ApiKey") (Fmin : ∀ i, i < 13 → Fld Z h0 (A i) "com/example/brokerwire/brokerwire/ApiKey" "minVersion" "S" (.int (own_min i))) (Fmax : ∀ i, i < 13 → Fld Z h0 (A i) "com/example/brokerwire/brokerwire/ApiKey" "maxVersion" "S" (.int (own_max i))) :
    MetFree l x (head1 (Jvm.Cond.code x code maxLocals ret :: ws) room_1) (fun a U => a = #[(.int p0), (.int p1), (.int p2)] ∧ Z.Warmed39 U.vm ∧ U.heap = h0) (fun _ _ _ _ _ => True) (fun _ U o U' => ∃ v L, o = .returned v ∧ Q0 Z p0 p1 p2 A h0 n0 v U'.heap L ∧ FrameEnd U o U' L room_1.cells room_1.slots) := by
  refine MetFree.of_bodySF (plainFor_of_name pn_0) hisR ?_
  intro p e s m args below meth c s₁ Bd hml0 hP hK
  obtain ⟨rfl, hZ, hh⟩ := hP
  have hx := Bd.exec
  have hby := Bd.bytes
  have hml : c.maxLocals = 13 := hml0
  have hown : s.vm.findClass "com/example/brokerwire/brokerwire/ApiKeyImplementsVersionPinLaw" = some m.cls := findClass_of_methodNamed Bd.named
  have hnm := (name_of_methodNamed Bd.named Bd.method).1
  have X0 : Stand p l e room_1 s m #[(.int p0), (.int p1), (.int p2)] below meth c s₁ [] 0 0 := Stand.of_body Bd
  have e0 : s₁.heap = h0 := by rw [← hh, Bd.state]; rfl
  have N0 := Fr.nil n0
  have pre0 : ∀ t, Steps p.tables e below (s₁.setTop (mkF m 0 #[.val (.int p0), .val (.int p1), .val (.int p2), .unset, .unset, .unset, .unset, .unset, .unset, .unset, .unset, .unset, .unset] [])) t → Steps p.tables e below (s₁.setTop (entryFrame m #[(.int p0), (.int p1), (.int p2)] maxLocals)) t := fun t k => castTop (ef_0 m p0 p1 p2) k
  show Done p e below _ _
  refine Done.of ?_ pre0
  have hnz6_1 : (13 : Int32) ≠ (0 : Int32) := by decide
  obtain ⟨v2, ev2⟩ : ∃ z : Int32, z = ((p0 &&& (2147483647 : Int32)) % (13 : Int32)) := ⟨_, rfl⟩
  obtain ⟨_, _, ⟨T3, L3, k3, n3⟩, -, X3, ⟨Lc3, hQ3, l3, y3, z3⟩, st3⟩ := Jvm.LawKit.callS X0 hx (y := (⟨"com/example/brokerwire/brokerwire/ApiKeyImplementsVersionPinLaw", "pick", "(I)Lcom/example/brokerwire/brokerwire/ApiKey;"⟩ : MethodName)) hown (mvT hZ (hw _ (List.mem_of_getElem? (i := 1) rfl))) (mvT hZ (hw _ (List.mem_of_getElem? (i := 2) rfl))) (mvT hZ (hw _ (List.mem_of_getElem? (i := 3) rfl))) (mvT hZ (hw _ (List.mem_of_getElem? (i := 4) rfl))) (by decide) (backOf (W := 0) (rm1 l Z a0 hw [] v2 A h0 n0 Z0 (own_idx ev2).1 (own_idx ev2).2 S0 S1 S2 S3 S4 S5 S6 S7 S8 S9 S10 S11 S12) hZ (hw _ (List.mem_of_getElem? (i := 4) rfl)) (hw _ (List.mem_of_getElem? (i := 3) rfl)) (by decide) (by decide)) (g := (mkF m 9 #[.val (.int p0), .val (.int p1), .val (.int p2), .val (.int v2), .unset, .unset, .unset, .unset, .unset, .unset, .unset, .unset, .unset] [(.int v2)])) rfl (by rw [hml]; rfl) (argsL := [(.int v2)]) (rest := []) (lenOf pd_0 rfl) rfl (by show 2 * 0 + _ ≤ _; exact Nat.le_of_eq rfl) (hb hby at_9) (fun _ _ => ⟨rfl, e0, (by decide : 0 + 0 ≤ _), (by decide : 0 + 0 ≤ _)⟩)
  dsimp only [Pt.U, Pt.locs, Pt.cells, Pt.slots] at X3 l3 y3 z3 st3 hQ3
  rw [l3, y3, z3] at X3
  obtain ⟨nj, rfl, N3q, e3, ltj, eqj⟩ := hQ3
  have N3 := Fr.app N0 N3q
  obtain ⟨T4, h4, k4, X4, e4, E4, A4, st4⟩ := newP X3 hx hZ (hw _ (List.mem_of_getElem? (i := 8) rfl)) e3 (g := (mkF m 16 #[.val (.int p0), .val (.int p1), .val (.int p2), .val (.int v2), .val (.ref (A nj)), .unset, .unset, .unset, .unset, .unset, .unset, .unset, .unset] [(.int (13 : Int32))])) rfl (hb hby at_16) rfl (by decide) (cap := 13) (by decide) (by decide) (by decide) (by decide)
  obtain ⟨b4, g4⟩ : ∃ z, z = h0.size := ⟨_, rfl⟩
  rw [← g4] at A4 st4
  have gnb4 : n0 ≤ b4 := Nat.le_trans Z0 (Nat.le_of_eq g4.symm)
  have Z4 : n0 ≤ h4.size := Nat.le_trans Z0 E4.1
  have ne_4_1 : (A nj) ≠ b4 := Nat.ne_of_lt (Nat.lt_of_lt_of_le (EA nj ltj).lt (Nat.le_of_eq g4.symm))
  have V4 : Arv Z h4 b4 k4 .int (13 : Int32) [(.int (0 : Int32)), (.int (0 : Int32)), (.int (0 : Int32)), (.int (0 : Int32)), (.int (0 : Int32)), (.int (0 : Int32)), (.int (0 : Int32)), (.int (0 : Int32)), (.int (0 : Int32)), (.int (0 : Int32)), (.int (0 : Int32)), (.int (0 : Int32)), (.int (0 : Int32))] (.int (0 : Int32)) := (Arv.new A4 (by decide)).pad (pad_rep [] (.int (0 : Int32)) 13)
  obtain ⟨cl5, Ar5, qq5, S5, M5, H5, G5⟩ := id V4
  have hin5 : ¬ ((0 : Int32) < 0 ∨ cl5.slots.size ≤ ((0 : Int32)).toNatClampNeg) := inb_of S5 ⟨by decide, by decide⟩
  obtain ⟨T6, h6, X6, e6, W6, st6⟩ := stI X4 hx hZ e4 Ar5 (j := (0 : Int32)) hin5 (g := (mkF m 21 #[.val (.int p0), .val (.int p1), .val (.int p2), .val (.int v2), .val (.ref (A nj)), .unset, .unset, .unset, .unset, .unset, .unset, .unset, .unset] [(.int (3 : Int32)), (.int (0 : Int32)), (.ref b4), (.ref b4)])) rfl rfl (hb hby at_21)
  have V6 : Arv Z h6 b4 k4 .int (13 : Int32) [(.int (3 : Int32)), (.int (0 : Int32)), (.int (0 : Int32)), (.int (0 : Int32)), (.int (0 : Int32)), (.int (0 : Int32)), (.int (0 : Int32)), (.int (0 : Int32)), (.int (0 : Int32)), (.int (0 : Int32)), (.int (0 : Int32)), (.int (0 : Int32)), (.int (0 : Int32))] _ := Arv.set Ar5 qq5 S5 M5 H5 G5 rfl W6 0 rfl (Nat.le_of_ble_eq_true rfl)
  have N6 := Fr.snoc X6 N3 gnb4
  have Z6 : n0 ≤ h6.size := Nat.le_trans Z4 (Nat.le_of_eq W6.size.symm)
  obtain ⟨cl7, Ar7, qq7, S7, M7, H7, G7⟩ := id V6
  have hin7 : ¬ ((1 : Int32) < 0 ∨ cl7.slots.size ≤ ((1 : Int32)).toNatClampNeg) := inb_of S7 ⟨by decide, by decide⟩
  obtain ⟨T8, h8, X8, e8, W8, st8⟩ := stI X6 hx hZ e6 Ar7 (j := (1 : Int32)) hin7 (g := (mkF m 25 #[.val (.int p0), .val (.int p1), .val (.int p2), .val (.int v2), .val (.ref (A nj)), .unset, .unset, .unset, .unset, .unset, .unset, .unset, .unset] [(.int (4 : Int32)), (.int (1 : Int32)), (.ref b4), (.ref b4)])) rfl rfl (hb hby at_25)
  have V8 : Arv Z h8 b4 k4 .int (13 : Int32) [(.int (3 : Int32)), (.int (4 : Int32)), (.int (0 : Int32)), (.int (0 : Int32)), (.int (0 : Int32)), (.int (0 : Int32)), (.int (0 : Int32)), (.int (0 : Int32)), (.int (0 : Int32)), (.int (0 : Int32)), (.int (0 : Int32)), (.int (0 : Int32)), (.int (0 : Int32))] _ := Arv.set Ar7 qq7 S7 M7 H7 G7 rfl W8 1 rfl (Nat.le_of_ble_eq_true rfl)
  have N8 := Fr.snoc X8 N6 gnb4
  have Z8 : n0 ≤ h8.size := Nat.le_trans Z6 (Nat.le_of_eq W8.size.symm)
  obtain ⟨cl9, Ar9, qq9, S9, M9, H9, G9⟩ := id V8
  have hin9 : ¬ ((2 : Int32) < 0 ∨ cl9.slots.size ≤ ((2 : Int32)).toNatClampNeg) := inb_of S9 ⟨by decide, by decide⟩
  obtain ⟨T10, h10, X10, e10, W10, st10⟩ := stI X8 hx hZ e8 Ar9 (j := (2 : Int32)) hin9 (g := (mkF m 29 #[.val (.int p0), .val (.int p1), .val (.int p2), .val (.int v2), .val (.ref (A nj)), .unset, .unset, .unset, .unset, .unset, .unset, .unset, .unset] [(.int (1 : Int32)), (.int (2 : Int32)), (.ref b4), (.ref b4)])) rfl rfl (hb hby at_29)
  have V10 : Arv Z h10 b4 k4 .int (13 : Int32) [(.int (3 : Int32)), (.int (4 : Int32)), (.int (1 : Int32)), (.int (0 : Int32)), (.int (0 : Int32)), (.int (0 : Int32)), (.int (0 : Int32)), (.int (0 : Int32)), (.int (0 : Int32)), (.int (0 : Int32)), (.int (0 : Int32)), (.int (0 : Int32)), (.int (0 : Int32))] _ := Arv.set Ar9 qq9 S9 M9 H9 G9 rfl W10 2 rfl (Nat.le_of_ble_eq_true rfl)
  have N10 := Fr.snoc X10 N8 gnb4
  have Z10 : n0 ≤ h10.size := Nat.le_trans Z8 (Nat.le_of_eq W10.size.symm)
  obtain ⟨cl11, Ar11, qq11, S11, M11, H11, G11⟩ := id V10
  have hin11 : ¬ ((3 : Int32) < 0 ∨ cl11.slots.size ≤ ((3 : Int32)).toNatClampNeg) := inb_of S11 ⟨by decide, by decide⟩
  obtain ⟨T12, h12, X12, e12, W12, st12⟩ := stI X10 hx hZ e10 Ar11 (j := (3 : Int32)) hin11 (g := (mkF m 33 #[.val (.int p0), .val (.int p1), .val (.int p2), .val (.int v2), .val (.ref (A nj)), .unset, .unset, .unset, .unset, .unset, .unset, .unset, .unset] [(.int (0 : Int32)), (.int (3 : Int32)), (.ref b4), (.ref b4)])) rfl rfl (hb hby at_33)
  have V12 : Arv Z h12 b4 k4 .int (13 : Int32) [(.int (3 : Int32)), (.int (4 : Int32)), (.int (1 : Int32)), (.int (0 : Int32)), (.int (0 : Int32)), (.int (0 : Int32)), (.int (0 : Int32)), (.int (0 : Int32)), (.int (0 : Int32)), (.int (0 : Int32)), (.int (0 : Int32)), (.int (0 : Int32)), (.int (0 : Int32))] _ := Arv.set Ar11 qq11 S11 M11 H11 G11 rfl W12 3 rfl (Nat.le_of_ble_eq_true rfl)
  have N12 := Fr.snoc X12 N10 gnb4
  have Z12 : n0 ≤ h12.size := Nat.le_trans Z10 (Nat.le_of_eq W12.size.symm)
  obtain ⟨cl13, Ar13, qq13, S13, M13, H13, G13⟩ := id V12
  have hin13 : ¬ ((4 : Int32) < 0 ∨ cl13.slots.size ≤ ((4 : Int32)).toNatClampNeg) := inb_of S13 ⟨by decide, by decide⟩
  obtain ⟨T14, h14, X14, e14, W14, st14⟩ := stI X12 hx hZ e12 Ar13 (j := (4 : Int32)) hin13 (g := (mkF m 37 #[.val (.int p0), .val (.int p1), .val (.int p2), .val (.int v2), .val (.ref (A nj)), .unset, .unset, .unset, .unset, .unset, .unset, .unset, .unset] [(.int (2 : Int32)), (.int (4 : Int32)), (.ref b4), (.ref b4)])) rfl rfl (hb hby at_37)
  have V14 : Arv Z h14 b4 k4 .int (13 : Int32) [(.int (3 : Int32)), (.int (4 : Int32)), (.int (1 : Int32)), (.int (0 : Int32)), (.int (2 : Int32)), (.int (0 : Int32)), (.int (0 : Int32)), (.int (0 : Int32)), (.int (0 : Int32)), (.int (0 : Int32)), (.int (0 : Int32)), (.int (0 : Int32)), (.int (0 : Int32))] _ := Arv.set Ar13 qq13 S13 M13 H13 G13 rfl W14 4 rfl (Nat.le_of_ble_eq_true rfl)
  have N14 := Fr.snoc X14 N12 gnb4
  have Z14 : n0 ≤ h14.size := Nat.le_trans Z12 (Nat.le_of_eq W14.size.symm)
  obtain ⟨cl15, Ar15, qq15, S15, M15, H15, G15⟩ := id V14
  have hin15 : ¬ ((5 : Int32) < 0 ∨ cl15.slots.size ≤ ((5 : Int32)).toNatClampNeg) := inb_of S15 ⟨by decide, by decide⟩
  obtain ⟨T16, h16, X16, e16, W16, st16⟩ := stI X14 hx hZ e14 Ar15 (j := (5 : Int32)) hin15 (g := (mkF m 41 #[.val (.int p0), .val (.int p1), .val (.int p2), .val (.int v2), .val (.ref (A nj)), .unset, .unset, .unset, .unset, .unset, .unset, .unset, .unset] [(.int (1 : Int32)), (.int (5 : Int32)), (.ref b4), (.ref b4)])) rfl rfl (hb hby at_41)
  have V16 : Arv Z h16 b4 k4 .int (13 : Int32) [(.int (3 : Int32)), (.int (4 : Int32)), (.int (1 : Int32)), (.int (0 : Int32)), (.int (2 : Int32)), (.int (1 : Int32)), (.int (0 : Int32)), (.int (0 : Int32)), (.int (0 : Int32)), (.int (0 : Int32)), (.int (0 : Int32)), (.int (0 : Int32)), (.int (0 : Int32))] _ := Arv.set Ar15 qq15 S15 M15 H15 G15 rfl W16 5 rfl (Nat.le_of_ble_eq_true rfl)
  have N16 := Fr.snoc X16 N14 gnb4
  have Z16 : n0 ≤ h16.size := Nat.le_trans Z14 (Nat.le_of_eq W16.size.symm)
  obtain ⟨cl17, Ar17, qq17, S17, M17, H17, G17⟩ := id V16
  have hin17 : ¬ ((6 : Int32) < 0 ∨ cl17.slots.size ≤ ((6 : Int32)).toNatClampNeg) := inb_of S17 ⟨by decide, by decide⟩
  obtain ⟨T18, h18, X18, e18, W18, st18⟩ := stI X16 hx hZ e16 Ar17 (j := (6 : Int32)) hin17 (g := (mkF m 46 #[.val (.int p0), .val (.int p1), .val (.int p2), .val (.int v2), .val (.ref (A nj)), .unset, .unset, .unset, .unset, .unset, .unset, .unset, .unset] [(.int (0 : Int32)), (.int (6 : Int32)), (.ref b4), (.ref b4)])) rfl rfl (hb hby at_46)
  have V18 : Arv Z h18 b4 k4 .int (13 : Int32) [(.int (3 : Int32)), (.int (4 : Int32)), (.int (1 : Int32)), (.int (0 : Int32)), (.int (2 : Int32)), (.int (1 : Int32)), (.int (0 : Int32)), (.int (0 : Int32)), (.int (0 : Int32)), (.int (0 : Int32)), (.int (0 : Int32)), (.int (0 : Int32)), (.int (0 : Int32))] _ := Arv.set Ar17 qq17 S17 M17 H17 G17 rfl W18 6 rfl (Nat.le_of_ble_eq_true rfl)
  have N18 := Fr.snoc X18 N16 gnb4
  have Z18 : n0 ≤ h18.size := Nat.le_trans Z16 (Nat.le_of_eq W18.size.symm)
  obtain ⟨cl19, Ar19, qq19, S19, M19, H19, G19⟩ := id V18
  have hin19 : ¬ ((7 : Int32) < 0 ∨ cl19.slots.size ≤ ((7 : Int32)).toNatClampNeg) := inb_of S19 ⟨by decide, by decide⟩
  obtain ⟨T20, h20, X20, e20, W20, st20⟩ := stI X18 hx hZ e18 Ar19 (j := (7 : Int32)) hin19 (g := (mkF m 51 #[.val (.int p0), .val (.int p1), .val (.int p2), .val (.int v2), .val (.ref (A nj)), .unset, .unset, .unset, .unset, .unset, .unset, .unset, .unset] [(.int (0 : Int32)), (.int (7 : Int32)), (.ref b4), (.ref b4)])) rfl rfl (hb hby at_51)
  have V20 : Arv Z h20 b4 k4 .int (13 : Int32) [(.int (3 : Int32)), (.int (4 : Int32)), (.int (1 : Int32)), (.int (0 : Int32)), (.int (2 : Int32)), (.int (1 : Int32)), (.int (0 : Int32)), (.int (0 : Int32)), (.int (0 : Int32)), (.int (0 : Int32)), (.int (0 : Int32)), (.int (0 : Int32)), (.int (0 : Int32))] _ := Arv.set Ar19 qq19 S19 M19 H19 G19 rfl W20 7 rfl (Nat.le_of_ble_eq_true rfl)
  have N20 := Fr.snoc X20 N18 gnb4
  have Z20 : n0 ≤ h20.size := Nat.le_trans Z18 (Nat.le_of_eq W20.size.symm)
  obtain ⟨cl21, Ar21, qq21, S21, M21, H21, G21⟩ := id V20
  have hin21 : ¬ ((8 : Int32) < 0 ∨ cl21.slots.size ≤ ((8 : Int32)).toNatClampNeg) := inb_of S21 ⟨by decide, by decide⟩
  obtain ⟨T22, h22, X22, e22, W22, st22⟩ := stI X20 hx hZ e20 Ar21 (j := (8 : Int32)) hin21 (g := (mkF m 56 #[.val (.int p0), .val (.int p1), .val (.int p2), .val (.int v2), .val (.ref (A nj)), .unset, .unset, .unset, .unset, .unset, .unset, .unset, .unset] [(.int (0 : Int32)), (.int (8 : Int32)), (.ref b4), (.ref b4)])) rfl rfl (hb hby at_56)
  have V22 : Arv Z h22 b4 k4 .int (13 : Int32) [(.int (3 : Int32)), (.int (4 : Int32)), (.int (1 : Int32)), (.int (0 : Int32)), (.int (2 : Int32)), (.int (1 : Int32)), (.int (0 : Int32)), (.int (0 : Int32)), (.int (0 : Int32)), (.int (0 : Int32)), (.int (0 : Int32)), (.int (0 : Int32)), (.int (0 : Int32))] _ := Arv.set Ar21 qq21 S21 M21 H21 G21 rfl W22 8 rfl (Nat.le_of_ble_eq_true rfl)
  have N22 := Fr.snoc X22 N20 gnb4
  have Z22 : n0 ≤ h22.size := Nat.le_trans Z20 (Nat.le_of_eq W22.size.symm)
  obtain ⟨cl23, Ar23, qq23, S23, M23, H23, G23⟩ := id V22
  have hin23 : ¬ ((9 : Int32) < 0 ∨ cl23.slots.size ≤ ((9 : Int32)).toNatClampNeg) := inb_of S23 ⟨by decide, by decide⟩
  obtain ⟨T24, h24, X24, e24, W24, st24⟩ := stI X22 hx hZ e22 Ar23 (j := (9 : Int32)) hin23 (g := (mkF m 61 #[.val (.int p0), .val (.int p1), .val (.int p2), .val (.int v2), .val (.ref (A nj)), .unset, .unset, .unset, .unset, .unset, .unset, .unset, .unset] [(.int (0 : Int32)), (.int (9 : Int32)), (.ref b4), (.ref b4)])) rfl rfl (hb hby at_61)
  have V24 : Arv Z h24 b4 k4 .int (13 : Int32) [(.int (3 : Int32)), (.int (4 : Int32)), (.int (1 : Int32)), (.int (0 : Int32)), (.int (2 : Int32)), (.int (1 : Int32)), (.int (0 : Int32)), (.int (0 : Int32)), (.int (0 : Int32)), (.int (0 : Int32)), (.int (0 : Int32)), (.int (0 : Int32)), (.int (0 : Int32))] _ := Arv.set Ar23 qq23 S23 M23 H23 G23 rfl W24 9 rfl (Nat.le_of_ble_eq_true rfl)
  have N24 := Fr.snoc X24 N22 gnb4
  have Z24 : n0 ≤ h24.size := Nat.le_trans Z22 (Nat.le_of_eq W24.size.symm)
  obtain ⟨cl25, Ar25, qq25, S25, M25, H25, G25⟩ := id V24
  have hin25 : ¬ ((10 : Int32) < 0 ∨ cl25.slots.size ≤ ((10 : Int32)).toNatClampNeg) := inb_of S25 ⟨by decide, by decide⟩
  obtain ⟨T26, h26, X26, e26, W26, st26⟩ := stI X24 hx hZ e24 Ar25 (j := (10 : Int32)) hin25 (g := (mkF m 66 #[.val (.int p0), .val (.int p1), .val (.int p2), .val (.int v2), .val (.ref (A nj)), .unset, .unset, .unset, .unset, .unset, .unset, .unset, .unset] [(.int (0 : Int32)), (.int (10 : Int32)), (.ref b4), (.ref b4)])) rfl rfl (hb hby at_66)
  have V26 : Arv Z h26 b4 k4 .int (13 : Int32) [(.int (3 : Int32)), (.int (4 : Int32)), (.int (1 : Int32)), (.int (0 : Int32)), (.int (2 : Int32)), (.int (1 : Int32)), (.int (0 : Int32)), (.int (0 : Int32)), (.int (0 : Int32)), (.int (0 : Int32)), (.int (0 : Int32)), (.int (0 : Int32)), (.int (0 : Int32))] _ := Arv.set Ar25 qq25 S25 M25 H25 G25 rfl W26 10 rfl (Nat.le_of_ble_eq_true rfl)
  have N26 := Fr.snoc X26 N24 gnb4
  have Z26 : n0 ≤ h26.size := Nat.le_trans Z24 (Nat.le_of_eq W26.size.symm)
  obtain ⟨cl27, Ar27, qq27, S27, M27, H27, G27⟩ := id V26
  have hin27 : ¬ ((11 : Int32) < 0 ∨ cl27.slots.size ≤ ((11 : Int32)).toNatClampNeg) := inb_of S27 ⟨by decide, by decide⟩
  obtain ⟨T28, h28, X28, e28, W28, st28⟩ := stI X26 hx hZ e26 Ar27 (j := (11 : Int32)) hin27 (g := (mkF m 71 #[.val (.int p0), .val (.int p1), .val (.int p2), .val (.int v2), .val (.ref (A nj)), .unset, .unset, .unset, .unset, .unset, .unset, .unset, .unset] [(.int (0 : Int32)), (.int (11 : Int32)), (.ref b4), (.ref b4)])) rfl rfl (hb hby at_71)
  have V28 : Arv Z h28 b4 k4 .int (13 : Int32) [(.int (3 : Int32)), (.int (4 : Int32)), (.int (1 : Int32)), (.int (0 : Int32)), (.int (2 : Int32)), (.int (1 : Int32)), (.int (0 : Int32)), (.int (0 : Int32)), (.int (0 : Int32)), (.int (0 : Int32)), (.int (0 : Int32)), (.int (0 : Int32)), (.int (0 : Int32))] _ := Arv.set Ar27 qq27 S27 M27 H27 G27 rfl W28 11 rfl (Nat.le_of_ble_eq_true rfl)
  have N28 := Fr.snoc X28 N26 gnb4
  have Z28 : n0 ≤ h28.size := Nat.le_trans Z26 (Nat.le_of_eq W28.size.symm)
  obtain ⟨cl29, Ar29, qq29, S29, M29, H29, G29⟩ := id V28
  have hin29 : ¬ ((12 : Int32) < 0 ∨ cl29.slots.size ≤ ((12 : Int32)).toNatClampNeg) := inb_of S29 ⟨by decide, by decide⟩
  obtain ⟨T30, h30, X30, e30, W30, st30⟩ := stI X28 hx hZ e28 Ar29 (j := (12 : Int32)) hin29 (g := (mkF m 76 #[.val (.int p0), .val (.int p1), .val (.int p2), .val (.int v2), .val (.ref (A nj)), .unset, .unset, .unset, .unset, .unset, .unset, .unset, .unset] [(.int (0 : Int32)), (.int (12 : Int32)), (.ref b4), (.ref b4)])) rfl rfl (hb hby at_76)
  have V30 : Arv Z h30 b4 k4 .int (13 : Int32) [(.int (3 : Int32)), (.int (4 : Int32)), (.int (1 : Int32)), (.int (0 : Int32)), (.int (2 : Int32)), (.int (1 : Int32)), (.int (0 : Int32)), (.int (0 : Int32)), (.int (0 : Int32)), (.int (0 : Int32)), (.int (0 : Int32)), (.int (0 : Int32)), (.int (0 : Int32))] _ := Arv.set Ar29 qq29 S29 M29 H29 G29 rfl W30 12 rfl (Nat.le_of_ble_eq_true rfl)
  have N30 := Fr.snoc X30 N28 gnb4
  have Z30 : n0 ≤ h30.size := Nat.le_trans Z28 (Nat.le_of_eq W30.size.symm)
  obtain ⟨T31, h31, k31, X31, e31, E31, A31, st31⟩ := newP X30 hx hZ (hw _ (List.mem_of_getElem? (i := 8) rfl)) e30 (g := (mkF m 81 #[.val (.int p0), .val (.int p1), .val (.int p2), .val (.int v2), .val (.ref (A nj)), .val (.ref b4), .unset, .unset, .unset, .unset, .unset, .unset, .unset] [(.int (13 : Int32))])) rfl (hb hby at_81) rfl (by decide) (cap := 13) (by decide) (by decide) (by decide) (by decide)
  obtain ⟨b31, g31⟩ : ∃ z, z = h30.size := ⟨_, rfl⟩
  rw [← g31] at A31 st31
  have gnb31 : n0 ≤ b31 := Nat.le_trans Z30 (Nat.le_of_eq g31.symm)
  have Z31 : n0 ≤ h31.size := Nat.le_trans Z30 E31.1
  have cy32 := ((EA nj ltj).ext E4)
  have cy33 := (cy32.wr W6)
  have cy34 := (cy33.wr W8)
  have cy35 := (cy34.wr W10)
  have cy36 := (cy35.wr W12)
  have cy37 := (cy36.wr W14)
  have cy38 := (cy37.wr W16)
  have cy39 := (cy38.wr W18)
  have cy40 := (cy39.wr W20)
  have cy41 := (cy40.wr W22)
  have cy42 := (cy41.wr W24)
  have cy43 := (cy42.wr W26)
  have cy44 := (cy43.wr W28)
  have cy45 := (cy44.wr W30)
  have ne_31_1 : (A nj) ≠ b31 := Nat.ne_of_lt (Nat.lt_of_lt_of_le cy45.lt (Nat.le_of_eq g31.symm))
  have ne_31_2 : b4 ≠ b31 := Nat.ne_of_lt (Nat.lt_of_lt_of_le V30.lt (Nat.le_of_eq g31.symm))
  have V31 : Arv Z h31 b31 k31 .int (13 : Int32) [(.int (0 : Int32)), (.int (0 : Int32)), (.int (0 : Int32)), (.int (0 : Int32)), (.int (0 : Int32)), (.int (0 : Int32)), (.int (0 : Int32)), (.int (0 : Int32)), (.int (0 : Int32)), (.int (0 : Int32)), (.int (0 : Int32)), (.int (0 : Int32)), (.int (0 : Int32))] (.int (0 : Int32)) := (Arv.new A31 (by decide)).pad (pad_rep [] (.int (0 : Int32)) 13)
  obtain ⟨cl46, Ar46, qq46, S46, M46, H46, G46⟩ := id V31
  have hin46 : ¬ ((0 : Int32) < 0 ∨ cl46.slots.size ≤ ((0 : Int32)).toNatClampNeg) := inb_of S46 ⟨by decide, by decide⟩
  obtain ⟨T47, h47, X47, e47, W47, st47⟩ := stI X31 hx hZ e31 Ar46 (j := (0 : Int32)) hin46 (g := (mkF m 86 #[.val (.int p0), .val (.int p1), .val (.int p2), .val (.int v2), .val (.ref (A nj)), .val (.ref b4), .unset, .unset, .unset, .unset, .unset, .unset, .unset] [(.int (3 : Int32)), (.int (0 : Int32)), (.ref b31), (.ref b31)])) rfl rfl (hb hby at_86)
  have V47 : Arv Z h47 b31 k31 .int (13 : Int32) [(.int (3 : Int32)), (.int (0 : Int32)), (.int (0 : Int32)), (.int (0 : Int32)), (.int (0 : Int32)), (.int (0 : Int32)), (.int (0 : Int32)), (.int (0 : Int32)), (.int (0 : Int32)), (.int (0 : Int32)), (.int (0 : Int32)), (.int (0 : Int32)), (.int (0 : Int32))] _ := Arv.set Ar46 qq46 S46 M46 H46 G46 rfl W47 0 rfl (Nat.le_of_ble_eq_true rfl)
  have N47 := Fr.snoc X47 N30 gnb31
  have Z47 : n0 ≤ h47.size := Nat.le_trans Z31 (Nat.le_of_eq W47.size.symm)
  obtain ⟨cl48, Ar48, qq48, S48, M48, H48, G48⟩ := id V47
  have hin48 : ¬ ((1 : Int32) < 0 ∨ cl48.slots.size ≤ ((1 : Int32)).toNatClampNeg) := inb_of S48 ⟨by decide, by decide⟩
  obtain ⟨T49, h49, X49, e49, W49, st49⟩ := stI X47 hx hZ e47 Ar48 (j := (1 : Int32)) hin48 (g := (mkF m 90 #[.val (.int p0), .val (.int p1), .val (.int p2), .val (.int v2), .val (.ref (A nj)), .val (.ref b4), .unset, .unset, .unset, .unset, .unset, .unset, .unset] [(.int (4 : Int32)), (.int (1 : Int32)), (.ref b31), (.ref b31)])) rfl rfl (hb hby at_90)
  have V49 : Arv Z h49 b31 k31 .int (13 : Int32) [(.int (3 : Int32)), (.int (4 : Int32)), (.int (0 : Int32)), (.int (0 : Int32)), (.int (0 : Int32)), (.int (0 : Int32)), (.int (0 : Int32)), (.int (0 : Int32)), (.int (0 : Int32)), (.int (0 : Int32)), (.int (0 : Int32)), (.int (0 : Int32)), (.int (0 : Int32))] _ := Arv.set Ar48 qq48 S48 M48 H48 G48 rfl W49 1 rfl (Nat.le_of_ble_eq_true rfl)
  have N49 := Fr.snoc X49 N47 gnb31
  have Z49 : n0 ≤ h49.size := Nat.le_trans Z47 (Nat.le_of_eq W49.size.symm)
  obtain ⟨cl50, Ar50, qq50, S50, M50, H50, G50⟩ := id V49
  have hin50 : ¬ ((2 : Int32) < 0 ∨ cl50.slots.size ≤ ((2 : Int32)).toNatClampNeg) := inb_of S50 ⟨by decide, by decide⟩
  obtain ⟨T51, h51, X51, e51, W51, st51⟩ := stI X49 hx hZ e49 Ar50 (j := (2 : Int32)) hin50 (g := (mkF m 94 #[.val (.int p0), .val (.int p1), .val (.int p2), .val (.int v2), .val (.ref (A nj)), .val (.ref b4), .unset, .unset, .unset, .unset, .unset, .unset, .unset] [(.int (1 : Int32)), (.int (2 : Int32)), (.ref b31), (.ref b31)])) rfl rfl (hb hby at_94)
  have V51 : Arv Z h51 b31 k31 .int (13 : Int32) [(.int (3 : Int32)), (.int (4 : Int32)), (.int (1 : Int32)), (.int (0 : Int32)), (.int (0 : Int32)), (.int (0 : Int32)), (.int (0 : Int32)), (.int (0 : Int32)), (.int (0 : Int32)), (.int (0 : Int32)), (.int (0 : Int32)), (.int (0 : Int32)), (.int (0 : Int32))] _ := Arv.set Ar50 qq50 S50 M50 H50 G50 rfl W51 2 rfl (Nat.le_of_ble_eq_true rfl)
  have N51 := Fr.snoc X51 N49 gnb31
  have Z51 : n0 ≤ h51.size := Nat.le_trans Z49 (Nat.le_of_eq W51.size.symm)
  obtain ⟨cl52, Ar52, qq52, S52, M52, H52, G52⟩ := id V51
  have hin52 : ¬ ((3 : Int32) < 0 ∨ cl52.slots.size ≤ ((3 : Int32)).toNatClampNeg) := inb_of S52 ⟨by decide, by decide⟩
  obtain ⟨T53, h53, X53, e53, W53, st53⟩ := stI X51 hx hZ e51 Ar52 (j := (3 : Int32)) hin52 (g := (mkF m 98 #[.val (.int p0), .val (.int p1), .val (.int p2), .val (.int v2), .val (.ref (A nj)), .val (.ref b4), .unset, .unset, .unset, .unset, .unset, .unset, .unset] [(.int (1 : Int32)), (.int (3 : Int32)), (.ref b31), (.ref b31)])) rfl rfl (hb hby at_98)
  have V53 : Arv Z h53 b31 k31 .int (13 : Int32) [(.int (3 : Int32)), (.int (4 : Int32)), (.int (1 : Int32)), (.int (1 : Int32)), (.int (0 : Int32)), (.int (0 : Int32)), (.int (0 : Int32)), (.int (0 : Int32)), (.int (0 : Int32)), (.int (0 : Int32)), (.int (0 : Int32)), (.int (0 : Int32)), (.int (0 : Int32))] _ := Arv.set Ar52 qq52 S52 M52 H52 G52 rfl W53 3 rfl (Nat.le_of_ble_eq_true rfl)
  have N53 := Fr.snoc X53 N51 gnb31
  have Z53 : n0 ≤ h53.size := Nat.le_trans Z51 (Nat.le_of_eq W53.size.symm)
  obtain ⟨cl54, Ar54, qq54, S54, M54, H54, G54⟩ := id V53
  have hin54 : ¬ ((4 : Int32) < 0 ∨ cl54.slots.size ≤ ((4 : Int32)).toNatClampNeg) := inb_of S54 ⟨by decide, by decide⟩
  obtain ⟨T55, h55, X55, e55, W55, st55⟩ := stI X53 hx hZ e53 Ar54 (j := (4 : Int32)) hin54 (g := (mkF m 102 #[.val (.int p0), .val (.int p1), .val (.int p2), .val (.int v2), .val (.ref (A nj)), .val (.ref b4), .unset, .unset, .unset, .unset, .unset, .unset, .unset] [(.int (2 : Int32)), (.int (4 : Int32)), (.ref b31), (.ref b31)])) rfl rfl (hb hby at_102)
  have V55 : Arv Z h55 b31 k31 .int (13 : Int32) [(.int (3 : Int32)), (.int (4 : Int32)), (.int (1 : Int32)), (.int (1 : Int32)), (.int (2 : Int32)), (.int (0 : Int32)), (.int (0 : Int32)), (.int (0 : Int32)), (.int (0 : Int32)), (.int (0 : Int32)), (.int (0 : Int32)), (.int (0 : Int32)), (.int (0 : Int32))] _ := Arv.set Ar54 qq54 S54 M54 H54 G54 rfl W55 4 rfl (Nat.le_of_ble_eq_true rfl)
  have N55 := Fr.snoc X55 N53 gnb31
  have Z55 : n0 ≤ h55.size := Nat.le_trans Z53 (Nat.le_of_eq W55.size.symm)
  obtain ⟨cl56, Ar56, qq56, S56, M56, H56, G56⟩ := id V55
  have hin56 : ¬ ((5 : Int32) < 0 ∨ cl56.slots.size ≤ ((5 : Int32)).toNatClampNeg) := inb_of S56 ⟨by decide, by decide⟩
  obtain ⟨T57, h57, X57, e57, W57, st57⟩ := stI X55 hx hZ e55 Ar56 (j := (5 : Int32)) hin56 (g := (mkF m 106 #[.val (.int p0), .val (.int p1), .val (.int p2), .val (.int v2), .val (.ref (A nj)), .val (.ref b4), .unset, .unset, .unset, .unset, .unset, .unset, .unset] [(.int (1 : Int32)), (.int (5 : Int32)), (.ref b31), (.ref b31)])) rfl rfl (hb hby at_106)
  have V57 : Arv Z h57 b31 k31 .int (13 : Int32) [(.int (3 : Int32)), (.int (4 : Int32)), (.int (1 : Int32)), (.int (1 : Int32)), (.int (2 : Int32)), (.int (1 : Int32)), (.int (0 : Int32)), (.int (0 : Int32)), (.int (0 : Int32)), (.int (0 : Int32)), (.int (0 : Int32)), (.int (0 : Int32)), (.int (0 : Int32))] _ := Arv.set Ar56 qq56 S56 M56 H56 G56 rfl W57 5 rfl (Nat.le_of_ble_eq_true rfl)
  have N57 := Fr.snoc X57 N55 gnb31
  have Z57 : n0 ≤ h57.size := Nat.le_trans Z55 (Nat.le_of_eq W57.size.symm)
  obtain ⟨cl58, Ar58, qq58, S58, M58, H58, G58⟩ := id V57
  have hin58 : ¬ ((6 : Int32) < 0 ∨ cl58.slots.size ≤ ((6 : Int32)).toNatClampNeg) := inb_of S58 ⟨by decide, by decide⟩
  obtain ⟨T59, h59, X59, e59, W59, st59⟩ := stI X57 hx hZ e57 Ar58 (j := (6 : Int32)) hin58 (g := (mkF m 111 #[.val (.int p0), .val (.int p1), .val (.int p2), .val (.int v2), .val (.ref (A nj)), .val (.ref b4), .unset, .unset, .unset, .unset, .unset, .unset, .unset] [(.int (0 : Int32)), (.int (6 : Int32)), (.ref b31), (.ref b31)])) rfl rfl (hb hby at_111)
  have V59 : Arv Z h59 b31 k31 .int (13 : Int32) [(.int (3 : Int32)), (.int (4 : Int32)), (.int (1 : Int32)), (.int (1 : Int32)), (.int (2 : Int32)), (.int (1 : Int32)), (.int (0 : Int32)), (.int (0 : Int32)), (.int (0 : Int32)), (.int (0 : Int32)), (.int (0 : Int32)), (.int (0 : Int32)), (.int (0 : Int32))] _ := Arv.set Ar58 qq58 S58 M58 H58 G58 rfl W59 6 rfl (Nat.le_of_ble_eq_true rfl)
  have N59 := Fr.snoc X59 N57 gnb31
  have Z59 : n0 ≤ h59.size := Nat.le_trans Z57 (Nat.le_of_eq W59.size.symm)
  obtain ⟨cl60, Ar60, qq60, S60, M60, H60, G60⟩ := id V59
  have hin60 : ¬ ((7 : Int32) < 0 ∨ cl60.slots.size ≤ ((7 : Int32)).toNatClampNeg) := inb_of S60 ⟨by decide, by decide⟩
  obtain ⟨T61, h61, X61, e61, W61, st61⟩ := stI X59 hx hZ e59 Ar60 (j := (7 : Int32)) hin60 (g := (mkF m 116 #[.val (.int p0), .val (.int p1), .val (.int p2), .val (.int v2), .val (.ref (A nj)), .val (.ref b4), .unset, .unset, .unset, .unset, .unset, .unset, .unset] [(.int (0 : Int32)), (.int (7 : Int32)), (.ref b31), (.ref b31)])) rfl rfl (hb hby at_116)
  have V61 : Arv Z h61 b31 k31 .int (13 : Int32) [(.int (3 : Int32)), (.int (4 : Int32)), (.int (1 : Int32)), (.int (1 : Int32)), (.int (2 : Int32)), (.int (1 : Int32)), (.int (0 : Int32)), (.int (0 : Int32)), (.int (0 : Int32)), (.int (0 : Int32)), (.int (0 : Int32)), (.int (0 : Int32)), (.int (0 : Int32))] _ := Arv.set Ar60 qq60 S60 M60 H60 G60 rfl W61 7 rfl (Nat.le_of_ble_eq_true rfl)
  have N61 := Fr.snoc X61 N59 gnb31
  have Z61 : n0 ≤ h61.size := Nat.le_trans Z59 (Nat.le_of_eq W61.size.symm)
  obtain ⟨cl62, Ar62, qq62, S62, M62, H62, G62⟩ := id V61
  have hin62 : ¬ ((8 : Int32) < 0 ∨ cl62.slots.size ≤ ((8 : Int32)).toNatClampNeg) := inb_of S62 ⟨by decide, by decide⟩
  obtain ⟨T63, h63, X63, e63, W63, st63⟩ := stI X61 hx hZ e61 Ar62 (j := (8 : Int32)) hin62 (g := (mkF m 121 #[.val (.int p0), .val (.int p1), .val (.int p2), .val (.int v2), .val (.ref (A nj)), .val (.ref b4), .unset, .unset, .unset, .unset, .unset, .unset, .unset] [(.int (0 : Int32)), (.int (8 : Int32)), (.ref b31), (.ref b31)])) rfl rfl (hb hby at_121)
  have V63 : Arv Z h63 b31 k31 .int (13 : Int32) [(.int (3 : Int32)), (.int (4 : Int32)), (.int (1 : Int32)), (.int (1 : Int32)), (.int (2 : Int32)), (.int (1 : Int32)), (.int (0 : Int32)), (.int (0 : Int32)), (.int (0 : Int32)), (.int (0 : Int32)), (.int (0 : Int32)), (.int (0 : Int32)), (.int (0 : Int32))] _ := Arv.set Ar62 qq62 S62 M62 H62 G62 rfl W63 8 rfl (Nat.le_of_ble_eq_true rfl)
  have N63 := Fr.snoc X63 N61 gnb31
  have Z63 : n0 ≤ h63.size := Nat.le_trans Z61 (Nat.le_of_eq W63.size.symm)
  obtain ⟨cl64, Ar64, qq64, S64, M64, H64, G64⟩ := id V63
  have hin64 : ¬ ((9 : Int32) < 0 ∨ cl64.slots.size ≤ ((9 : Int32)).toNatClampNeg) := inb_of S64 ⟨by decide, by decide⟩
  obtain ⟨T65, h65, X65, e65, W65, st65⟩ := stI X63 hx hZ e63 Ar64 (j := (9 : Int32)) hin64 (g := (mkF m 126 #[.val (.int p0), .val (.int p1), .val (.int p2), .val (.int v2), .val (.ref (A nj)), .val (.ref b4), .unset, .unset, .unset, .unset, .unset, .unset, .unset] [(.int (0 : Int32)), (.int (9 : Int32)), (.ref b31), (.ref b31)])) rfl rfl (hb hby at_126)
  have V65 : Arv Z h65 b31 k31 .int (13 : Int32) [(.int (3 : Int32)), (.int (4 : Int32)), (.int (1 : Int32)), (.int (1 : Int32)), (.int (2 : Int32)), (.int (1 : Int32)), (.int (0 : Int32)), (.int (0 : Int32)), (.int (0 : Int32)), (.int (0 : Int32)), (.int (0 : Int32)), (.int (0 : Int32)), (.int (0 : Int32))] _ := Arv.set Ar64 qq64 S64 M64 H64 G64 rfl W65 9 rfl (Nat.le_of_ble_eq_true rfl)
  have N65 := Fr.snoc X65 N63 gnb31
  have Z65 : n0 ≤ h65.size := Nat.le_trans Z63 (Nat.le_of_eq W65.size.symm)
  obtain ⟨cl66, Ar66, qq66, S66, M66, H66, G66⟩ := id V65
  have hin66 : ¬ ((10 : Int32) < 0 ∨ cl66.slots.size ≤ ((10 : Int32)).toNatClampNeg) := inb_of S66 ⟨by decide, by decide⟩
  obtain ⟨T67, h67, X67, e67, W67, st67⟩ := stI X65 hx hZ e65 Ar66 (j := (10 : Int32)) hin66 (g := (mkF m 131 #[.val (.int p0), .val (.int p1), .val (.int p2), .val (.int v2), .val (.ref (A nj)), .val (.ref b4), .unset, .unset, .unset, .unset, .unset, .unset, .unset] [(.int (0 : Int32)), (.int (10 : Int32)), (.ref b31), (.ref b31)])) rfl rfl (hb hby at_131)
  have V67 : Arv Z h67 b31 k31 .int (13 : Int32) [(.int (3 : Int32)), (.int (4 : Int32)), (.int (1 : Int32)), (.int (1 : Int32)), (.int (2 : Int32)), (.int (1 : Int32)), (.int (0 : Int32)), (.int (0 : Int32)), (.int (0 : Int32)), (.int (0 : Int32)), (.int (0 : Int32)), (.int (0 : Int32)), (.int (0 : Int32))] _ := Arv.set Ar66 qq66 S66 M66 H66 G66 rfl W67 10 rfl (Nat.le_of_ble_eq_true rfl)
  have N67 := Fr.snoc X67 N65 gnb31
  have Z67 : n0 ≤ h67.size := Nat.le_trans Z65 (Nat.le_of_eq W67.size.symm)
  obtain ⟨cl68, Ar68, qq68, S68, M68, H68, G68⟩ := id V67
  have hin68 : ¬ ((11 : Int32) < 0 ∨ cl68.slots.size ≤ ((11 : Int32)).toNatClampNeg) := inb_of S68 ⟨by decide, by decide⟩
  obtain ⟨T69, h69, X69, e69, W69, st69⟩ := stI X67 hx hZ e67 Ar68 (j := (11 : Int32)) hin68 (g := (mkF m 136 #[.val (.int p0), .val (.int p1), .val (.int p2), .val (.int v2), .val (.ref (A nj)), .val (.ref b4), .unset, .unset, .unset, .unset, .unset, .unset, .unset] [(.int (3 : Int32)), (.int (11 : Int32)), (.ref b31), (.ref b31)])) rfl rfl (hb hby at_136)
  have V69 : Arv Z h69 b31 k31 .int (13 : Int32) [(.int (3 : Int32)), (.int (4 : Int32)), (.int (1 : Int32)), (.int (1 : Int32)), (.int (2 : Int32)), (.int (1 : Int32)), (.int (0 : Int32)), (.int (0 : Int32)), (.int (0 : Int32)), (.int (0 : Int32)), (.int (0 : Int32)), (.int (3 : Int32)), (.int (0 : Int32))] _ := Arv.set Ar68 qq68 S68 M68 H68 G68 rfl W69 11 rfl (Nat.le_of_ble_eq_true rfl)
  have N69 := Fr.snoc X69 N67 gnb31
  have Z69 : n0 ≤ h69.size := Nat.le_trans Z67 (Nat.le_of_eq W69.size.symm)
  obtain ⟨cl70, Ar70, qq70, S70, M70, H70, G70⟩ := id V69
  have hin70 : ¬ ((12 : Int32) < 0 ∨ cl70.slots.size ≤ ((12 : Int32)).toNatClampNeg) := inb_of S70 ⟨by decide, by decide⟩
  obtain ⟨T71, h71, X71, e71, W71, st71⟩ := stI X69 hx hZ e69 Ar70 (j := (12 : Int32)) hin70 (g := (mkF m 141 #[.val (.int p0), .val (.int p1), .val (.int p2), .val (.int v2), .val (.ref (A nj)), .val (.ref b4), .unset, .unset, .unset, .unset, .unset, .unset, .unset] [(.int (0 : Int32)), (.int (12 : Int32)), (.ref b31), (.ref b31)])) rfl rfl (hb hby at_141)
  have V71 : Arv Z h71 b31 k31 .int (13 : Int32) [(.int (3 : Int32)), (.int (4 : Int32)), (.int (1 : Int32)), (.int (1 : Int32)), (.int (2 : Int32)), (.int (1 : Int32)), (.int (0 : Int32)), (.int (0 : Int32)), (.int (0 : Int32)), (.int (0 : Int32)), (.int (0 : Int32)), (.int (3 : Int32)), (.int (0 : Int32))] _ := Arv.set Ar70 qq70 S70 M70 H70 G70 rfl W71 12 rfl (Nat.le_of_ble_eq_true rfl)
  have N71 := Fr.snoc X71 N69 gnb31
  have Z71 : n0 ≤ h71.size := Nat.le_trans Z69 (Nat.le_of_eq W71.size.symm)
  have cy73 := (V30.ext E31)
  have cy74 := (cy73.other W47 ne_31_2)
  have cy75 := (cy74.other W49 ne_31_2)
  have cy76 := (cy75.other W51 ne_31_2)
  have cy77 := (cy76.other W53 ne_31_2)
  have cy78 := (cy77.other W55 ne_31_2)
  have cy79 := (cy78.other W57 ne_31_2)
  have cy80 := (cy79.other W59 ne_31_2)
  have cy81 := (cy80.other W61 ne_31_2)
  have cy82 := (cy81.other W63 ne_31_2)
  have cy83 := (cy82.other W65 ne_31_2)
  have cy84 := (cy83.other W67 ne_31_2)
  have cy85 := (cy84.other W69 ne_31_2)
  have cy86 := (cy85.other W71 ne_31_2)
  obtain ⟨cl72, Ar72, qq72, S72, M72, H72, G72⟩ := id cy86
  have hin72 : ¬ (v2 < 0 ∨ cl72.slots.size ≤ (v2).toNatClampNeg) := fun q => q.elim (own_neg eqj) fun q2 => by rw [S72, own_clamp eqj, own_13] at q2; exact absurd ltj (Nat.not_lt.mpr q2)
  have hat72 : cl72.slots[(v2).toNatClampNeg]? = some (.int (own_min nj)) := by rw [own_clamp eqj, H72 nj (by rw [S72, own_13]; exact ltj), own_gmin nj ltj]
  obtain ⟨cl87, Ar87, qq87, S87, M87, H87, G87⟩ := id V71
  have hin87 : ¬ (v2 < 0 ∨ cl87.slots.size ≤ (v2).toNatClampNeg) := fun q => q.elim (own_neg eqj) fun q2 => by rw [S87, own_clamp eqj, own_13] at q2; exact absurd ltj (Nat.not_lt.mpr q2)
  have hat87 : cl87.slots[(v2).toNatClampNeg]? = some (.int (own_max nj)) := by rw [own_clamp eqj, H87 nj (by rw [S87, own_13]; exact ltj), own_gmax nj ltj]
  have K88 : ∀ target, Steps p.tables e below (T71.setTop (mkF m 164 #[.val (.int p0), .val (.int p1), .val (.int p2), .val (.int v2), .val (.ref (A nj)), .val (.ref b4), .val (.ref b31), .val (.int (own_min nj)), .val (.int (own_max nj)), .val (.int (p1 &&& (7 : Int32))), .unset, .unset, .unset] [(.int (p1 &&& (7 : Int32)))])) target → Steps p.tables e below (s₁.setTop (mkF m 0 #[.val (.int p0), .val (.int p1), .val (.int p2), .unset, .unset, .unset, .unset, .unset, .unset, .unset, .unset, .unset, .unset] [])) target := by
    intro target kt
    show Steps p.tables e below (s₁.setTop (mkF m 0 #[.val (.int p0), .val (.int p1), .val (.int p2), .unset, .unset, .unset, .unset, .unset, .unset, .unset, .unset, .unset, .unset] [])) _
    refine XS.iloadN X0.here hx rfl (hb hby at_0) rfl ?_
    show Steps p.tables e below (s₁.setTop (mkF m 1 #[.val (.int p0), .val (.int p1), .val (.int p2), .unset, .unset, .unset, .unset, .unset, .unset, .unset, .unset, .unset, .unset] [(.int p0)])) _
    refine X0.ldcInt hx hown (mvT hZ (hw _ (List.mem_of_getElem? (i := 0) rfl))) (g := (mkF m 1 #[.val (.int p0), .val (.int p1), .val (.int p2), .unset, .unset, .unset, .unset, .unset, .unset, .unset, .unset, .unset, .unset] [(.int p0)])) rfl (hb hby at_1) _ ?_
    show Steps p.tables e below (s₁.setTop (mkF m 3 #[.val (.int p0), .val (.int p1), .val (.int p2), .unset, .unset, .unset, .unset, .unset, .unset, .unset, .unset, .unset, .unset] [(.int (2147483647 : Int32)), (.int p0)])) _
    refine XS.iand X0.here hx rfl (hb hby at_3) rfl ?_
    show Steps p.tables e below (s₁.setTop (mkF m 4 #[.val (.int p0), .val (.int p1), .val (.int p2), .unset, .unset, .unset, .unset, .unset, .unset, .unset, .unset, .unset, .unset] [(.int (p0 &&& (2147483647 : Int32)))])) _
    refine XS.bipush X0.here hx rfl (hb hby at_4) ?_
    show Steps p.tables e below (s₁.setTop (mkF m 6 #[.val (.int p0), .val (.int p1), .val (.int p2), .unset, .unset, .unset, .unset, .unset, .unset, .unset, .unset, .unset, .unset] [(.int (13 : Int32)), (.int (p0 &&& (2147483647 : Int32)))])) _
    refine Jvm.RoadKit.iremM X0 hx rfl (hb hby at_6) rfl hnz6_1 ?_
    show Steps p.tables e below (s₁.setTop (mkF m 7 #[.val (.int p0), .val (.int p1), .val (.int p2), .unset, .unset, .unset, .unset, .unset, .unset, .unset, .unset, .unset, .unset] [(.int ((p0 &&& (2147483647 : Int32)) % (13 : Int32)))])) _
    rw [← ev2]
    show Steps p.tables e below (s₁.setTop (mkF m 7 #[.val (.int p0), .val (.int p1), .val (.int p2), .unset, .unset, .unset, .unset, .unset, .unset, .unset, .unset, .unset, .unset] [(.int v2)])) _
    refine XS.istoreN X0.here hx rfl (hb hby at_7) rfl (l' := #[.val (.int p0), .val (.int p1), .val (.int p2), .val (.int v2), .unset, .unset, .unset, .unset, .unset, .unset, .unset, .unset, .unset]) rfl ?_
    show Steps p.tables e below (s₁.setTop (mkF m 8 #[.val (.int p0), .val (.int p1), .val (.int p2), .val (.int v2), .unset, .unset, .unset, .unset, .unset, .unset, .unset, .unset, .unset] [])) _
    refine XS.iloadN X0.here hx rfl (hb hby at_8) rfl ?_
    show Steps p.tables e below (s₁.setTop (mkF m 9 #[.val (.int p0), .val (.int p1), .val (.int p2), .val (.int v2), .unset, .unset, .unset, .unset, .unset, .unset, .unset, .unset, .unset] [(.int v2)])) _
    refine st3 _ ?_
    show Steps p.tables e below (T3.setTop (mkF m 12 #[.val (.int p0), .val (.int p1), .val (.int p2), .val (.int v2), .unset, .unset, .unset, .unset, .unset, .unset, .unset, .unset, .unset] [(.ref (A nj))])) _
    refine XS.astore X3.here hx rfl (hb hby at_12) rfl rfl (l' := #[.val (.int p0), .val (.int p1), .val (.int p2), .val (.int v2), .val (.ref (A nj)), .unset, .unset, .unset, .unset, .unset, .unset, .unset, .unset]) rfl ?_
    show Steps p.tables e below (T3.setTop (mkF m 14 #[.val (.int p0), .val (.int p1), .val (.int p2), .val (.int v2), .val (.ref (A nj)), .unset, .unset, .unset, .unset, .unset, .unset, .unset, .unset] [])) _
    refine XS.bipush X3.here hx rfl (hb hby at_14) ?_
    show Steps p.tables e below (T3.setTop (mkF m 16 #[.val (.int p0), .val (.int p1), .val (.int p2), .val (.int v2), .val (.ref (A nj)), .unset, .unset, .unset, .unset, .unset, .unset, .unset, .unset] [(.int (13 : Int32))])) _
    refine st4 _ ?_
    show Steps p.tables e below (T4.setTop (mkF m 18 #[.val (.int p0), .val (.int p1), .val (.int p2), .val (.int v2), .val (.ref (A nj)), .unset, .unset, .unset, .unset, .unset, .unset, .unset, .unset] [(.ref b4)])) _
    refine XS.dup X4.here hx rfl (hb hby at_18) rfl rfl ?_
    show Steps p.tables e below (T4.setTop (mkF m 19 #[.val (.int p0), .val (.int p1), .val (.int p2), .val (.int v2), .val (.ref (A nj)), .unset, .unset, .unset, .unset, .unset, .unset, .unset, .unset] [(.ref b4), (.ref b4)])) _
    refine XS.iconst X4.here hx rfl (hb hby at_19) ?_
    show Steps p.tables e below (T4.setTop (mkF m 20 #[.val (.int p0), .val (.int p1), .val (.int p2), .val (.int v2), .val (.ref (A nj)), .unset, .unset, .unset, .unset, .unset, .unset, .unset, .unset] [(.int (0 : Int32)), (.ref b4), (.ref b4)])) _
    refine XS.iconst X4.here hx rfl (hb hby at_20) ?_
    show Steps p.tables e below (T4.setTop (mkF m 21 #[.val (.int p0), .val (.int p1), .val (.int p2), .val (.int v2), .val (.ref (A nj)), .unset, .unset, .unset, .unset, .unset, .unset, .unset, .unset] [(.int (3 : Int32)), (.int (0 : Int32)), (.ref b4), (.ref b4)])) _
    refine st6 _ ?_
    show Steps p.tables e below (T6.setTop (mkF m 22 #[.val (.int p0), .val (.int p1), .val (.int p2), .val (.int v2), .val (.ref (A nj)), .unset, .unset, .unset, .unset, .unset, .unset, .unset, .unset] [(.ref b4)])) _
    refine XS.dup X6.here hx rfl (hb hby at_22) rfl rfl ?_
    show Steps p.tables e below (T6.setTop (mkF m 23 #[.val (.int p0), .val (.int p1), .val (.int p2), .val (.int v2), .val (.ref (A nj)), .unset, .unset, .unset, .unset, .unset, .unset, .unset, .unset] [(.ref b4), (.ref b4)])) _
    refine XS.iconst X6.here hx rfl (hb hby at_23) ?_
    show Steps p.tables e below (T6.setTop (mkF m 24 #[.val (.int p0), .val (.int p1), .val (.int p2), .val (.int v2), .val (.ref (A nj)), .unset, .unset, .unset, .unset, .unset, .unset, .unset, .unset] [(.int (1 : Int32)), (.ref b4), (.ref b4)])) _
    refine XS.iconst X6.here hx rfl (hb hby at_24) ?_
    show Steps p.tables e below (T6.setTop (mkF m 25 #[.val (.int p0), .val (.int p1), .val (.int p2), .val (.int v2), .val (.ref (A nj)), .unset, .unset, .unset, .unset, .unset, .unset, .unset, .unset] [(.int (4 : Int32)), (.int (1 : Int32)), (.ref b4), (.ref b4)])) _
    refine st8 _ ?_
    show Steps p.tables e below (T8.setTop (mkF m 26 #[.val (.int p0), .val (.int p1), .val (.int p2), .val (.int v2), .val (.ref (A nj)), .unset, .unset, .unset, .unset, .unset, .unset, .unset, .unset] [(.ref b4)])) _
    refine XS.dup X8.here hx rfl (hb hby at_26) rfl rfl ?_
    show Steps p.tables e below (T8.setTop (mkF m 27 #[.val (.int p0), .val (.int p1), .val (.int p2), .val (.int v2), .val (.ref (A nj)), .unset, .unset, .unset, .unset, .unset, .unset, .unset, .unset] [(.ref b4), (.ref b4)])) _
    refine XS.iconst X8.here hx rfl (hb hby at_27) ?_
    show Steps p.tables e below (T8.setTop (mkF m 28 #[.val (.int p0), .val (.int p1), .val (.int p2), .val (.int v2), .val (.ref (A nj)), .unset, .unset, .unset, .unset, .unset, .unset, .unset, .unset] [(.int (2 : Int32)), (.ref b4), (.ref b4)])) _
    refine XS.iconst X8.here hx rfl (hb hby at_28) ?_
    show Steps p.tables e below (T8.setTop (mkF m 29 #[.val (.int p0), .val (.int p1), .val (.int p2), .val (.int v2), .val (.ref (A nj)), .unset, .unset, .unset, .unset, .unset, .unset, .unset, .unset] [(.int (1 : Int32)), (.int (2 : Int32)), (.ref b4), (.ref b4)])) _
    refine st10 _ ?_
    show Steps p.tables e below (T10.setTop (mkF m 30 #[.val (.int p0), .val (.int p1), .val (.int p2), .val (.int v2), .val (.ref (A nj)), .unset, .unset, .unset, .unset, .unset, .unset, .unset, .unset] [(.ref b4)])) _
    refine XS.dup X10.here hx rfl (hb hby at_30) rfl rfl ?_
    show Steps p.tables e below (T10.setTop (mkF m 31 #[.val (.int p0), .val (.int p1), .val (.int p2), .val (.int v2), .val (.ref (A nj)), .unset, .unset, .unset, .unset, .unset, .unset, .unset, .unset] [(.ref b4), (.ref b4)])) _
    refine XS.iconst X10.here hx rfl (hb hby at_31) ?_
    show Steps p.tables e below (T10.setTop (mkF m 32 #[.val (.int p0), .val (.int p1), .val (.int p2), .val (.int v2), .val (.ref (A nj)), .unset, .unset, .unset, .unset, .unset, .unset, .unset, .unset] [(.int (3 : Int32)), (.ref b4), (.ref b4)])) _
    refine XS.iconst X10.here hx rfl (hb hby at_32) ?_
    show Steps p.tables e below (T10.setTop (mkF m 33 #[.val (.int p0), .val (.int p1), .val (.int p2), .val (.int v2), .val (.ref (A nj)), .unset, .unset, .unset, .unset, .unset, .unset, .unset, .unset] [(.int (0 : Int32)), (.int (3 : Int32)), (.ref b4), (.ref b4)])) _
    refine st12 _ ?_
    show Steps p.tables e below (T12.setTop (mkF m 34 #[.val (.int p0), .val (.int p1), .val (.int p2), .val (.int v2), .val (.ref (A nj)), .unset, .unset, .unset, .unset, .unset, .unset, .unset, .unset] [(.ref b4)])) _
    refine XS.dup X12.here hx rfl (hb hby at_34) rfl rfl ?_
    show Steps p.tables e below (T12.setTop (mkF m 35 #[.val (.int p0), .val (.int p1), .val (.int p2), .val (.int v2), .val (.ref (A nj)), .unset, .unset, .unset, .unset, .unset, .unset, .unset, .unset] [(.ref b4), (.ref b4)])) _
    refine XS.iconst X12.here hx rfl (hb hby at_35) ?_
    show Steps p.tables e below (T12.setTop (mkF m 36 #[.val (.int p0), .val (.int p1), .val (.int p2), .val (.int v2), .val (.ref (A nj)), .unset, .unset, .unset, .unset, .unset, .unset, .unset, .unset] [(.int (4 : Int32)), (.ref b4), (.ref b4)])) _
    refine XS.iconst X12.here hx rfl (hb hby at_36) ?_
    show Steps p.tables e below (T12.setTop (mkF m 37 #[.val (.int p0), .val (.int p1), .val (.int p2), .val (.int v2), .val (.ref (A nj)), .unset, .unset, .unset, .unset, .unset, .unset, .unset, .unset] [(.int (2 : Int32)), (.int (4 : Int32)), (.ref b4), (.ref b4)])) _
    refine st14 _ ?_
    show Steps p.tables e below (T14.setTop (mkF m 38 #[.val (.int p0), .val (.int p1), .val (.int p2), .val (.int v2), .val (.ref (A nj)), .unset, .unset, .unset, .unset, .unset, .unset, .unset, .unset] [(.ref b4)])) _
    refine XS.dup X14.here hx rfl (hb hby at_38) rfl rfl ?_
    show Steps p.tables e below (T14.setTop (mkF m 39 #[.val (.int p0), .val (.int p1), .val (.int p2), .val (.int v2), .val (.ref (A nj)), .unset, .unset, .unset, .unset, .unset, .unset, .unset, .unset] [(.ref b4), (.ref b4)])) _
    refine XS.iconst X14.here hx rfl (hb hby at_39) ?_
    show Steps p.tables e below (T14.setTop (mkF m 40 #[.val (.int p0), .val (.int p1), .val (.int p2), .val (.int v2), .val (.ref (A nj)), .unset, .unset, .unset, .unset, .unset, .unset, .unset, .unset] [(.int (5 : Int32)), (.ref b4), (.ref b4)])) _
    refine XS.iconst X14.here hx rfl (hb hby at_40) ?_
    show Steps p.tables e below (T14.setTop (mkF m 41 #[.val (.int p0), .val (.int p1), .val (.int p2), .val (.int v2), .val (.ref (A nj)), .unset, .unset, .unset, .unset, .unset, .unset, .unset, .unset] [(.int (1 : Int32)), (.int (5 : Int32)), (.ref b4), (.ref b4)])) _
    refine st16 _ ?_
    show Steps p.tables e below (T16.setTop (mkF m 42 #[.val (.int p0), .val (.int p1), .val (.int p2), .val (.int v2), .val (.ref (A nj)), .unset, .unset, .unset, .unset, .unset, .unset, .unset, .unset] [(.ref b4)])) _
    refine XS.dup X16.here hx rfl (hb hby at_42) rfl rfl ?_
    show Steps p.tables e below (T16.setTop (mkF m 43 #[.val (.int p0), .val (.int p1), .val (.int p2), .val (.int v2), .val (.ref (A nj)), .unset, .unset, .unset, .unset, .unset, .unset, .unset, .unset] [(.ref b4), (.ref b4)])) _
    refine XS.bipush X16.here hx rfl (hb hby at_43) ?_
    show Steps p.tables e below (T16.setTop (mkF m 45 #[.val (.int p0), .val (.int p1), .val (.int p2), .val (.int v2), .val (.ref (A nj)), .unset, .unset, .unset, .unset, .unset, .unset, .unset, .unset] [(.int (6 : Int32)), (.ref b4), (.ref b4)])) _
    refine XS.iconst X16.here hx rfl (hb hby at_45) ?_
    show Steps p.tables e below (T16.setTop (mkF m 46 #[.val (.int p0), .val (.int p1), .val (.int p2), .val (.int v2), .val (.ref (A nj)), .unset, .unset, .unset, .unset, .unset, .unset, .unset, .unset] [(.int (0 : Int32)), (.int (6 : Int32)), (.ref b4), (.ref b4)])) _
    refine st18 _ ?_
    show Steps p.tables e below (T18.setTop (mkF m 47 #[.val (.int p0), .val (.int p1), .val (.int p2), .val (.int v2), .val (.ref (A nj)), .unset, .unset, .unset, .unset, .unset, .unset, .unset, .unset] [(.ref b4)])) _
    refine XS.dup X18.here hx rfl (hb hby at_47) rfl rfl ?_
    show Steps p.tables e below (T18.setTop (mkF m 48 #[.val (.int p0), .val (.int p1), .val (.int p2), .val (.int v2), .val (.ref (A nj)), .unset, .unset, .unset, .unset, .unset, .unset, .unset, .unset] [(.ref b4), (.ref b4)])) _
    refine XS.bipush X18.here hx rfl (hb hby at_48) ?_
    show Steps p.tables e below (T18.setTop (mkF m 50 #[.val (.int p0), .val (.int p1), .val (.int p2), .val (.int v2), .val (.ref (A nj)), .unset, .unset, .unset, .unset, .unset, .unset, .unset, .unset] [(.int (7 : Int32)), (.ref b4), (.ref b4)])) _
    refine XS.iconst X18.here hx rfl (hb hby at_50) ?_
    show Steps p.tables e below (T18.setTop (mkF m 51 #[.val (.int p0), .val (.int p1), .val (.int p2), .val (.int v2), .val (.ref (A nj)), .unset, .unset, .unset, .unset, .unset, .unset, .unset, .unset] [(.int (0 : Int32)), (.int (7 : Int32)), (.ref b4), (.ref b4)])) _
    refine st20 _ ?_
    show Steps p.tables e below (T20.setTop (mkF m 52 #[.val (.int p0), .val (.int p1), .val (.int p2), .val (.int v2), .val (.ref (A nj)), .unset, .unset, .unset, .unset, .unset, .unset, .unset, .unset] [(.ref b4)])) _
    refine XS.dup X20.here hx rfl (hb hby at_52) rfl rfl ?_
    show Steps p.tables e below (T20.setTop (mkF m 53 #[.val (.int p0), .val (.int p1), .val (.int p2), .val (.int v2), .val (.ref (A nj)), .unset, .unset, .unset, .unset, .unset, .unset, .unset, .unset] [(.ref b4), (.ref b4)])) _
    refine XS.bipush X20.here hx rfl (hb hby at_53) ?_
    show Steps p.tables e below (T20.setTop (mkF m 55 #[.val (.int p0), .val (.int p1), .val (.int p2), .val (.int v2), .val (.ref (A nj)), .unset, .unset, .unset, .unset, .unset, .unset, .unset, .unset] [(.int (8 : Int32)), (.ref b4), (.ref b4)])) _
    refine XS.iconst X20.here hx rfl (hb hby at_55) ?_
    show Steps p.tables e below (T20.setTop (mkF m 56 #[.val (.int p0), .val (.int p1), .val (.int p2), .val (.int v2), .val (.ref (A nj)), .unset, .unset, .unset, .unset, .unset, .unset, .unset, .unset] [(.int (0 : Int32)), (.int (8 : Int32)), (.ref b4), (.ref b4)])) _
    refine st22 _ ?_
    show Steps p.tables e below (T22.setTop (mkF m 57 #[.val (.int p0), .val (.int p1), .val (.int p2), .val (.int v2), .val (.ref (A nj)), .unset, .unset, .unset, .unset, .unset, .unset, .unset, .unset] [(.ref b4)])) _
    refine XS.dup X22.here hx rfl (hb hby at_57) rfl rfl ?_
    show Steps p.tables e below (T22.setTop (mkF m 58 #[.val (.int p0), .val (.int p1), .val (.int p2), .val (.int v2), .val (.ref (A nj)), .unset, .unset, .unset, .unset, .unset, .unset, .unset, .unset] [(.ref b4), (.ref b4)])) _
    refine XS.bipush X22.here hx rfl (hb hby at_58) ?_
    show Steps p.tables e below (T22.setTop (mkF m 60 #[.val (.int p0), .val (.int p1), .val (.int p2), .val (.int v2), .val (.ref (A nj)), .unset, .unset, .unset, .unset, .unset, .unset, .unset, .unset] [(.int (9 : Int32)), (.ref b4), (.ref b4)])) _
    refine XS.iconst X22.here hx rfl (hb hby at_60) ?_
    show Steps p.tables e below (T22.setTop (mkF m 61 #[.val (.int p0), .val (.int p1), .val (.int p2), .val (.int v2), .val (.ref (A nj)), .unset, .unset, .unset, .unset, .unset, .unset, .unset, .unset] [(.int (0 : Int32)), (.int (9 : Int32)), (.ref b4), (.ref b4)])) _
    refine st24 _ ?_
    show Steps p.tables e below (T24.setTop (mkF m 62 #[.val (.int p0), .val (.int p1), .val (.int p2), .val (.int v2), .val (.ref (A nj)), .unset, .unset, .unset, .unset, .unset, .unset, .unset, .unset] [(.ref b4)])) _
    refine XS.dup X24.here hx rfl (hb hby at_62) rfl rfl ?_
    show Steps p.tables e below (T24.setTop (mkF m 63 #[.val (.int p0), .val (.int p1), .val (.int p2), .val (.int v2), .val (.ref (A nj)), .unset, .unset, .unset, .unset, .unset, .unset, .unset, .unset] [(.ref b4), (.ref b4)])) _
    refine XS.bipush X24.here hx rfl (hb hby at_63) ?_
    show Steps p.tables e below (T24.setTop (mkF m 65 #[.val (.int p0), .val (.int p1), .val (.int p2), .val (.int v2), .val (.ref (A nj)), .unset, .unset, .unset, .unset, .unset, .unset, .unset, .unset] [(.int (10 : Int32)), (.ref b4), (.ref b4)])) _
    refine XS.iconst X24.here hx rfl (hb hby at_65) ?_
    show Steps p.tables e below (T24.setTop (mkF m 66 #[.val (.int p0), .val (.int p1), .val (.int p2), .val (.int v2), .val (.ref (A nj)), .unset, .unset, .unset, .unset, .unset, .unset, .unset, .unset] [(.int (0 : Int32)), (.int (10 : Int32)), (.ref b4), (.ref b4)])) _
    refine st26 _ ?_
    show Steps p.tables e below (T26.setTop (mkF m 67 #[.val (.int p0), .val (.int p1), .val (.int p2), .val (.int v2), .val (.ref (A nj)), .unset, .unset, .unset, .unset, .unset, .unset, .unset, .unset] [(.ref b4)])) _
    refine XS.dup X26.here hx rfl (hb hby at_67) rfl rfl ?_
    show Steps p.tables e below (T26.setTop (mkF m 68 #[.val (.int p0), .val (.int p1), .val (.int p2), .val (.int v2), .val (.ref (A nj)), .unset, .unset, .unset, .unset, .unset, .unset, .unset, .unset] [(.ref b4), (.ref b4)])) _
    refine XS.bipush X26.here hx rfl (hb hby at_68) ?_
    show Steps p.tables e below (T26.setTop (mkF m 70 #[.val (.int p0), .val (.int p1), .val (.int p2), .val (.int v2), .val (.ref (A nj)), .unset, .unset, .unset, .unset, .unset, .unset, .unset, .unset] [(.int (11 : Int32)), (.ref b4), (.ref b4)])) _
    refine XS.iconst X26.here hx rfl (hb hby at_70) ?_
    show Steps p.tables e below (T26.setTop (mkF m 71 #[.val (.int p0), .val (.int p1), .val (.int p2), .val (.int v2), .val (.ref (A nj)), .unset, .unset, .unset, .unset, .unset, .unset, .unset, .unset] [(.int (0 : Int32)), (.int (11 : Int32)), (.ref b4), (.ref b4)])) _
    refine st28 _ ?_
    show Steps p.tables e below (T28.setTop (mkF m 72 #[.val (.int p0), .val (.int p1), .val (.int p2), .val (.int v2), .val (.ref (A nj)), .unset, .unset, .unset, .unset, .unset, .unset, .unset, .unset] [(.ref b4)])) _
    refine XS.dup X28.here hx rfl (hb hby at_72) rfl rfl ?_
    show Steps p.tables e below (T28.setTop (mkF m 73 #[.val (.int p0), .val (.int p1), .val (.int p2), .val (.int v2), .val (.ref (A nj)), .unset, .unset, .unset, .unset, .unset, .unset, .unset, .unset] [(.ref b4), (.ref b4)])) _
    refine XS.bipush X28.here hx rfl (hb hby at_73) ?_
    show Steps p.tables e below (T28.setTop (mkF m 75 #[.val (.int p0), .val (.int p1), .val (.int p2), .val (.int v2), .val (.ref (A nj)), .unset, .unset, .unset, .unset, .unset, .unset, .unset, .unset] [(.int (12 : Int32)), (.ref b4), (.ref b4)])) _
    refine XS.iconst X28.here hx rfl (hb hby at_75) ?_
    show Steps p.tables e below (T28.setTop (mkF m 76 #[.val (.int p0), .val (.int p1), .val (.int p2), .val (.int v2), .val (.ref (A nj)), .unset, .unset, .unset, .unset, .unset, .unset, .unset, .unset] [(.int (0 : Int32)), (.int (12 : Int32)), (.ref b4), (.ref b4)])) _
    refine st30 _ ?_
    show Steps p.tables e below (T30.setTop (mkF m 77 #[.val (.int p0), .val (.int p1), .val (.int p2), .val (.int v2), .val (.ref (A nj)), .unset, .unset, .unset, .unset, .unset, .unset, .unset, .unset] [(.ref b4)])) _
    refine XS.astore X30.here hx rfl (hb hby at_77) rfl rfl (l' := #[.val (.int p0), .val (.int p1), .val (.int p2), .val (.int v2), .val (.ref (A nj)), .val (.ref b4), .unset, .unset, .unset, .unset, .unset, .unset, .unset]) rfl ?_
    show Steps p.tables e below (T30.setTop (mkF m 79 #[.val (.int p0), .val (.int p1), .val (.int p2), .val (.int v2), .val (.ref (A nj)), .val (.ref b4), .unset, .unset, .unset, .unset, .unset, .unset, .unset] [])) _
    refine XS.bipush X30.here hx rfl (hb hby at_79) ?_
    show Steps p.tables e below (T30.setTop (mkF m 81 #[.val (.int p0), .val (.int p1), .val (.int p2), .val (.int v2), .val (.ref (A nj)), .val (.ref b4), .unset, .unset, .unset, .unset, .unset, .unset, .unset] [(.int (13 : Int32))])) _
    refine st31 _ ?_
    show Steps p.tables e below (T31.setTop (mkF m 83 #[.val (.int p0), .val (.int p1), .val (.int p2), .val (.int v2), .val (.ref (A nj)), .val (.ref b4), .unset, .unset, .unset, .unset, .unset, .unset, .unset] [(.ref b31)])) _
    refine XS.dup X31.here hx rfl (hb hby at_83) rfl rfl ?_
    show Steps p.tables e below (T31.setTop (mkF m 84 #[.val (.int p0), .val (.int p1), .val (.int p2), .val (.int v2), .val (.ref (A nj)), .val (.ref b4), .unset, .unset, .unset, .unset, .unset, .unset, .unset] [(.ref b31), (.ref b31)])) _
    refine XS.iconst X31.here hx rfl (hb hby at_84) ?_
    show Steps p.tables e below (T31.setTop (mkF m 85 #[.val (.int p0), .val (.int p1), .val (.int p2), .val (.int v2), .val (.ref (A nj)), .val (.ref b4), .unset, .unset, .unset, .unset, .unset, .unset, .unset] [(.int (0 : Int32)), (.ref b31), (.ref b31)])) _
    refine XS.iconst X31.here hx rfl (hb hby at_85) ?_
    show Steps p.tables e below (T31.setTop (mkF m 86 #[.val (.int p0), .val (.int p1), .val (.int p2), .val (.int v2), .val (.ref (A nj)), .val (.ref b4), .unset, .unset, .unset, .unset, .unset, .unset, .unset] [(.int (3 : Int32)), (.int (0 : Int32)), (.ref b31), (.ref b31)])) _
    refine st47 _ ?_
    show Steps p.tables e below (T47.setTop (mkF m 87 #[.val (.int p0), .val (.int p1), .val (.int p2), .val (.int v2), .val (.ref (A nj)), .val (.ref b4), .unset, .unset, .unset, .unset, .unset, .unset, .unset] [(.ref b31)])) _
    refine XS.dup X47.here hx rfl (hb hby at_87) rfl rfl ?_
    show Steps p.tables e below (T47.setTop (mkF m 88 #[.val (.int p0), .val (.int p1), .val (.int p2), .val (.int v2), .val (.ref (A nj)), .val (.ref b4), .unset, .unset, .unset, .unset, .unset, .unset, .unset] [(.ref b31), (.ref b31)])) _
    refine XS.iconst X47.here hx rfl (hb hby at_88) ?_
    show Steps p.tables e below (T47.setTop (mkF m 89 #[.val (.int p0), .val (.int p1), .val (.int p2), .val (.int v2), .val (.ref (A nj)), .val (.ref b4), .unset, .unset, .unset, .unset, .unset, .unset, .unset] [(.int (1 : Int32)), (.ref b31), (.ref b31)])) _
    refine XS.iconst X47.here hx rfl (hb hby at_89) ?_
    show Steps p.tables e below (T47.setTop (mkF m 90 #[.val (.int p0), .val (.int p1), .val (.int p2), .val (.int v2), .val (.ref (A nj)), .val (.ref b4), .unset, .unset, .unset, .unset, .unset, .unset, .unset] [(.int (4 : Int32)), (.int (1 : Int32)), (.ref b31), (.ref b31)])) _
    refine st49 _ ?_
    show Steps p.tables e below (T49.setTop (mkF m 91 #[.val (.int p0), .val (.int p1), .val (.int p2), .val (.int v2), .val (.ref (A nj)), .val (.ref b4), .unset, .unset, .unset, .unset, .unset, .unset, .unset] [(.ref b31)])) _
    refine XS.dup X49.here hx rfl (hb hby at_91) rfl rfl ?_
    show Steps p.tables e below (T49.setTop (mkF m 92 #[.val (.int p0), .val (.int p1), .val (.int p2), .val (.int v2), .val (.ref (A nj)), .val (.ref b4), .unset, .unset, .unset, .unset, .unset, .unset, .unset] [(.ref b31), (.ref b31)])) _
    refine XS.iconst X49.here hx rfl (hb hby at_92) ?_
    show Steps p.tables e below (T49.setTop (mkF m 93 #[.val (.int p0), .val (.int p1), .val (.int p2), .val (.int v2), .val (.ref (A nj)), .val (.ref b4), .unset, .unset, .unset, .unset, .unset, .unset, .unset] [(.int (2 : Int32)), (.ref b31), (.ref b31)])) _
    refine XS.iconst X49.here hx rfl (hb hby at_93) ?_
    show Steps p.tables e below (T49.setTop (mkF m 94 #[.val (.int p0), .val (.int p1), .val (.int p2), .val (.int v2), .val (.ref (A nj)), .val (.ref b4), .unset, .unset, .unset, .unset, .unset, .unset, .unset] [(.int (1 : Int32)), (.int (2 : Int32)), (.ref b31), (.ref b31)])) _
    refine st51 _ ?_
    show Steps p.tables e below (T51.setTop (mkF m 95 #[.val (.int p0), .val (.int p1), .val (.int p2), .val (.int v2), .val (.ref (A nj)), .val (.ref b4), .unset, .unset, .unset, .unset, .unset, .unset, .unset] [(.ref b31)])) _
    refine XS.dup X51.here hx rfl (hb hby at_95) rfl rfl ?_
    show Steps p.tables e below (T51.setTop (mkF m 96 #[.val (.int p0), .val (.int p1), .val (.int p2), .val (.int v2), .val (.ref (A nj)), .val (.ref b4), .unset, .unset, .unset, .unset, .unset, .unset, .unset] [(.ref b31), (.ref b31)])) _
    refine XS.iconst X51.here hx rfl (hb hby at_96) ?_
    show Steps p.tables e below (T51.setTop (mkF m 97 #[.val (.int p0), .val (.int p1), .val (.int p2), .val (.int v2), .val (.ref (A nj)), .val (.ref b4), .unset, .unset, .unset, .unset, .unset, .unset, .unset] [(.int (3 : Int32)), (.ref b31), (.ref b31)])) _
    refine XS.iconst X51.here hx rfl (hb hby at_97) ?_
    show Steps p.tables e below (T51.setTop (mkF m 98 #[.val (.int p0), .val (.int p1), .val (.int p2), .val (.int v2), .val (.ref (A nj)), .val (.ref b4), .unset, .unset, .unset, .unset, .unset, .unset, .unset] [(.int (1 : Int32)), (.int (3 : Int32)), (.ref b31), (.ref b31)])) _
    refine st53 _ ?_
    show Steps p.tables e below (T53.setTop (mkF m 99 #[.val (.int p0), .val (.int p1), .val (.int p2), .val (.int v2), .val (.ref (A nj)), .val (.ref b4), .unset, .unset, .unset, .unset, .unset, .unset, .unset] [(.ref b31)])) _
    refine XS.dup X53.here hx rfl (hb hby at_99) rfl rfl ?_
    show Steps p.tables e below (T53.setTop (mkF m 100 #[.val (.int p0), .val (.int p1), .val (.int p2), .val (.int v2), .val (.ref (A nj)), .val (.ref b4), .unset, .unset, .unset, .unset, .unset, .unset, .unset] [(.ref b31), (.ref b31)])) _
    refine XS.iconst X53.here hx rfl (hb hby at_100) ?_
    show Steps p.tables e below (T53.setTop (mkF m 101 #[.val (.int p0), .val (.int p1), .val (.int p2), .val (.int v2), .val (.ref (A nj)), .val (.ref b4), .unset, .unset, .unset, .unset, .unset, .unset, .unset] [(.int (4 : Int32)), (.ref b31), (.ref b31)])) _
    refine XS.iconst X53.here hx rfl (hb hby at_101) ?_
    show Steps p.tables e below (T53.setTop (mkF m 102 #[.val (.int p0), .val (.int p1), .val (.int p2), .val (.int v2), .val (.ref (A nj)), .val (.ref b4), .unset, .unset, .unset, .unset, .unset, .unset, .unset] [(.int (2 : Int32)), (.int (4 : Int32)), (.ref b31), (.ref b31)])) _
    refine st55 _ ?_
    show Steps p.tables e below (T55.setTop (mkF m 103 #[.val (.int p0), .val (.int p1), .val (.int p2), .val (.int v2), .val (.ref (A nj)), .val (.ref b4), .unset, .unset, .unset, .unset, .unset, .unset, .unset] [(.ref b31)])) _
    refine XS.dup X55.here hx rfl (hb hby at_103) rfl rfl ?_
    show Steps p.tables e below (T55.setTop (mkF m 104 #[.val (.int p0), .val (.int p1), .val (.int p2), .val (.int v2), .val (.ref (A nj)), .val (.ref b4), .unset, .unset, .unset, .unset, .unset, .unset, .unset] [(.ref b31), (.ref b31)])) _
    refine XS.iconst X55.here hx rfl (hb hby at_104) ?_
    show Steps p.tables e below (T55.setTop (mkF m 105 #[.val (.int p0), .val (.int p1), .val (.int p2), .val (.int v2), .val (.ref (A nj)), .val (.ref b4), .unset, .unset, .unset, .unset, .unset, .unset, .unset] [(.int (5 : Int32)), (.ref b31), (.ref b31)])) _
    refine XS.iconst X55.here hx rfl (hb hby at_105) ?_
    show Steps p.tables e below (T55.setTop (mkF m 106 #[.val (.int p0), .val (.int p1), .val (.int p2), .val (.int v2), .val (.ref (A nj)), .val (.ref b4), .unset, .unset, .unset, .unset, .unset, .unset, .unset] [(.int (1 : Int32)), (.int (5 : Int32)), (.ref b31), (.ref b31)])) _
    refine st57 _ ?_
    show Steps p.tables e below (T57.setTop (mkF m 107 #[.val (.int p0), .val (.int p1), .val (.int p2), .val (.int v2), .val (.ref (A nj)), .val (.ref b4), .unset, .unset, .unset, .unset, .unset, .unset, .unset] [(.ref b31)])) _
    refine XS.dup X57.here hx rfl (hb hby at_107) rfl rfl ?_
    show Steps p.tables e below (T57.setTop (mkF m 108 #[.val (.int p0), .val (.int p1), .val (.int p2), .val (.int v2), .val (.ref (A nj)), .val (.ref b4), .unset, .unset, .unset, .unset, .unset, .unset, .unset] [(.ref b31), (.ref b31)])) _
    refine XS.bipush X57.here hx rfl (hb hby at_108) ?_
    show Steps p.tables e below (T57.setTop (mkF m 110 #[.val (.int p0), .val (.int p1), .val (.int p2), .val (.int v2), .val (.ref (A nj)), .val (.ref b4), .unset, .unset, .unset, .unset, .unset, .unset, .unset] [(.int (6 : Int32)), (.ref b31), (.ref b31)])) _
    refine XS.iconst X57.here hx rfl (hb hby at_110) ?_
    show Steps p.tables e below (T57.setTop (mkF m 111 #[.val (.int p0), .val (.int p1), .val (.int p2), .val (.int v2), .val (.ref (A nj)), .val (.ref b4), .unset, .unset, .unset, .unset, .unset, .unset, .unset] [(.int (0 : Int32)), (.int (6 : Int32)), (.ref b31), (.ref b31)])) _
    refine st59 _ ?_
    show Steps p.tables e below (T59.setTop (mkF m 112 #[.val (.int p0), .val (.int p1), .val (.int p2), .val (.int v2), .val (.ref (A nj)), .val (.ref b4), .unset, .unset, .unset, .unset, .unset, .unset, .unset] [(.ref b31)])) _
    refine XS.dup X59.here hx rfl (hb hby at_112) rfl rfl ?_
    show Steps p.tables e below (T59.setTop (mkF m 113 #[.val (.int p0), .val (.int p1), .val (.int p2), .val (.int v2), .val (.ref (A nj)), .val (.ref b4), .unset, .unset, .unset, .unset, .unset, .unset, .unset] [(.ref b31), (.ref b31)])) _
    refine XS.bipush X59.here hx rfl (hb hby at_113) ?_
    show Steps p.tables e below (T59.setTop (mkF m 115 #[.val (.int p0), .val (.int p1), .val (.int p2), .val (.int v2), .val (.ref (A nj)), .val (.ref b4), .unset, .unset, .unset, .unset, .unset, .unset, .unset] [(.int (7 : Int32)), (.ref b31), (.ref b31)])) _
    refine XS.iconst X59.here hx rfl (hb hby at_115) ?_
    show Steps p.tables e below (T59.setTop (mkF m 116 #[.val (.int p0), .val (.int p1), .val (.int p2), .val (.int v2), .val (.ref (A nj)), .val (.ref b4), .unset, .unset, .unset, .unset, .unset, .unset, .unset] [(.int (0 : Int32)), (.int (7 : Int32)), (.ref b31), (.ref b31)])) _
    refine st61 _ ?_
    show Steps p.tables e below (T61.setTop (mkF m 117 #[.val (.int p0), .val (.int p1), .val (.int p2), .val (.int v2), .val (.ref (A nj)), .val (.ref b4), .unset, .unset, .unset, .unset, .unset, .unset, .unset] [(.ref b31)])) _
    refine XS.dup X61.here hx rfl (hb hby at_117) rfl rfl ?_
    show Steps p.tables e below (T61.setTop (mkF m 118 #[.val (.int p0), .val (.int p1), .val (.int p2), .val (.int v2), .val (.ref (A nj)), .val (.ref b4), .unset, .unset, .unset, .unset, .unset, .unset, .unset] [(.ref b31), (.ref b31)])) _
    refine XS.bipush X61.here hx rfl (hb hby at_118) ?_
    show Steps p.tables e below (T61.setTop (mkF m 120 #[.val (.int p0), .val (.int p1), .val (.int p2), .val (.int v2), .val (.ref (A nj)), .val (.ref b4), .unset, .unset, .unset, .unset, .unset, .unset, .unset] [(.int (8 : Int32)), (.ref b31), (.ref b31)])) _
    refine XS.iconst X61.here hx rfl (hb hby at_120) ?_
    show Steps p.tables e below (T61.setTop (mkF m 121 #[.val (.int p0), .val (.int p1), .val (.int p2), .val (.int v2), .val (.ref (A nj)), .val (.ref b4), .unset, .unset, .unset, .unset, .unset, .unset, .unset] [(.int (0 : Int32)), (.int (8 : Int32)), (.ref b31), (.ref b31)])) _
    refine st63 _ ?_
    show Steps p.tables e below (T63.setTop (mkF m 122 #[.val (.int p0), .val (.int p1), .val (.int p2), .val (.int v2), .val (.ref (A nj)), .val (.ref b4), .unset, .unset, .unset, .unset, .unset, .unset, .unset] [(.ref b31)])) _
    refine XS.dup X63.here hx rfl (hb hby at_122) rfl rfl ?_
    show Steps p.tables e below (T63.setTop (mkF m 123 #[.val (.int p0), .val (.int p1), .val (.int p2), .val (.int v2), .val (.ref (A nj)), .val (.ref b4), .unset, .unset, .unset, .unset, .unset, .unset, .unset] [(.ref b31), (.ref b31)])) _
    refine XS.bipush X63.here hx rfl (hb hby at_123) ?_
    show Steps p.tables e below (T63.setTop (mkF m 125 #[.val (.int p0), .val (.int p1), .val (.int p2), .val (.int v2), .val (.ref (A nj)), .val (.ref b4), .unset, .unset, .unset, .unset, .unset, .unset, .unset] [(.int (9 : Int32)), (.ref b31), (.ref b31)])) _
    refine XS.iconst X63.here hx rfl (hb hby at_125) ?_
    show Steps p.tables e below (T63.setTop (mkF m 126 #[.val (.int p0), .val (.int p1), .val (.int p2), .val (.int v2), .val (.ref (A nj)), .val (.ref b4), .unset, .unset, .unset, .unset, .unset, .unset, .unset] [(.int (0 : Int32)), (.int (9 : Int32)), (.ref b31), (.ref b31)])) _
    refine st65 _ ?_
    show Steps p.tables e below (T65.setTop (mkF m 127 #[.val (.int p0), .val (.int p1), .val (.int p2), .val (.int v2), .val (.ref (A nj)), .val (.ref b4), .unset, .unset, .unset, .unset, .unset, .unset, .unset] [(.ref b31)])) _
    refine XS.dup X65.here hx rfl (hb hby at_127) rfl rfl ?_
    show Steps p.tables e below (T65.setTop (mkF m 128 #[.val (.int p0), .val (.int p1), .val (.int p2), .val (.int v2), .val (.ref (A nj)), .val (.ref b4), .unset, .unset, .unset, .unset, .unset, .unset, .unset] [(.ref b31), (.ref b31)])) _
    refine XS.bipush X65.here hx rfl (hb hby at_128) ?_
    show Steps p.tables e below (T65.setTop (mkF m 130 #[.val (.int p0), .val (.int p1), .val (.int p2), .val (.int v2), .val (.ref (A nj)), .val (.ref b4), .unset, .unset, .unset, .unset, .unset, .unset, .unset] [(.int (10 : Int32)), (.ref b31), (.ref b31)])) _
    refine XS.iconst X65.here hx rfl (hb hby at_130) ?_
    show Steps p.tables e below (T65.setTop (mkF m 131 #[.val (.int p0), .val (.int p1), .val (.int p2), .val (.int v2), .val (.ref (A nj)), .val (.ref b4), .unset, .unset, .unset, .unset, .unset, .unset, .unset] [(.int (0 : Int32)), (.int (10 : Int32)), (.ref b31), (.ref b31)])) _
    refine st67 _ ?_
    show Steps p.tables e below (T67.setTop (mkF m 132 #[.val (.int p0), .val (.int p1), .val (.int p2), .val (.int v2), .val (.ref (A nj)), .val (.ref b4), .unset, .unset, .unset, .unset, .unset, .unset, .unset] [(.ref b31)])) _
    refine XS.dup X67.here hx rfl (hb hby at_132) rfl rfl ?_
    show Steps p.tables e below (T67.setTop (mkF m 133 #[.val (.int p0), .val (.int p1), .val (.int p2), .val (.int v2), .val (.ref (A nj)), .val (.ref b4), .unset, .unset, .unset, .unset, .unset, .unset, .unset] [(.ref b31), (.ref b31)])) _
    refine XS.bipush X67.here hx rfl (hb hby at_133) ?_
    show Steps p.tables e below (T67.setTop (mkF m 135 #[.val (.int p0), .val (.int p1), .val (.int p2), .val (.int v2), .val (.ref (A nj)), .val (.ref b4), .unset, .unset, .unset, .unset, .unset, .unset, .unset] [(.int (11 : Int32)), (.ref b31), (.ref b31)])) _
    refine XS.iconst X67.here hx rfl (hb hby at_135) ?_
    show Steps p.tables e below (T67.setTop (mkF m 136 #[.val (.int p0), .val (.int p1), .val (.int p2), .val (.int v2), .val (.ref (A nj)), .val (.ref b4), .unset, .unset, .unset, .unset, .unset, .unset, .unset] [(.int (3 : Int32)), (.int (11 : Int32)), (.ref b31), (.ref b31)])) _
    refine st69 _ ?_
    show Steps p.tables e below (T69.setTop (mkF m 137 #[.val (.int p0), .val (.int p1), .val (.int p2), .val (.int v2), .val (.ref (A nj)), .val (.ref b4), .unset, .unset, .unset, .unset, .unset, .unset, .unset] [(.ref b31)])) _
    refine XS.dup X69.here hx rfl (hb hby at_137) rfl rfl ?_
    show Steps p.tables e below (T69.setTop (mkF m 138 #[.val (.int p0), .val (.int p1), .val (.int p2), .val (.int v2), .val (.ref (A nj)), .val (.ref b4), .unset, .unset, .unset, .unset, .unset, .unset, .unset] [(.ref b31), (.ref b31)])) _
    refine XS.bipush X69.here hx rfl (hb hby at_138) ?_
    show Steps p.tables e below (T69.setTop (mkF m 140 #[.val (.int p0), .val (.int p1), .val (.int p2), .val (.int v2), .val (.ref (A nj)), .val (.ref b4), .unset, .unset, .unset, .unset, .unset, .unset, .unset] [(.int (12 : Int32)), (.ref b31), (.ref b31)])) _
    refine XS.iconst X69.here hx rfl (hb hby at_140) ?_
    show Steps p.tables e below (T69.setTop (mkF m 141 #[.val (.int p0), .val (.int p1), .val (.int p2), .val (.int v2), .val (.ref (A nj)), .val (.ref b4), .unset, .unset, .unset, .unset, .unset, .unset, .unset] [(.int (0 : Int32)), (.int (12 : Int32)), (.ref b31), (.ref b31)])) _
    refine st71 _ ?_
    show Steps p.tables e below (T71.setTop (mkF m 142 #[.val (.int p0), .val (.int p1), .val (.int p2), .val (.int v2), .val (.ref (A nj)), .val (.ref b4), .unset, .unset, .unset, .unset, .unset, .unset, .unset] [(.ref b31)])) _
    refine XS.astore X71.here hx rfl (hb hby at_142) rfl rfl (l' := #[.val (.int p0), .val (.int p1), .val (.int p2), .val (.int v2), .val (.ref (A nj)), .val (.ref b4), .val (.ref b31), .unset, .unset, .unset, .unset, .unset, .unset]) rfl ?_
    show Steps p.tables e below (T71.setTop (mkF m 144 #[.val (.int p0), .val (.int p1), .val (.int p2), .val (.int v2), .val (.ref (A nj)), .val (.ref b4), .val (.ref b31), .unset, .unset, .unset, .unset, .unset, .unset] [])) _
    refine XS.aload X71.here hx rfl (hb hby at_144) rfl rfl ?_
    show Steps p.tables e below (T71.setTop (mkF m 146 #[.val (.int p0), .val (.int p1), .val (.int p2), .val (.int v2), .val (.ref (A nj)), .val (.ref b4), .val (.ref b31), .unset, .unset, .unset, .unset, .unset, .unset] [(.ref b4)])) _
    refine XS.iloadN X71.here hx rfl (hb hby at_146) rfl ?_
    show Steps p.tables e below (T71.setTop (mkF m 147 #[.val (.int p0), .val (.int p1), .val (.int p2), .val (.int v2), .val (.ref (A nj)), .val (.ref b4), .val (.ref b31), .unset, .unset, .unset, .unset, .unset, .unset] [(.int v2), (.ref b4)])) _
    refine X71.iaload hx (j := v2) (v := (.int (own_min nj))) (by rw [e71]; exact Ar72.1) (State.isArrayOf_alike hZ.alike Ar72.2.1) Ar72.2.2 hin72 hat72 (g := (mkF m 147 #[.val (.int p0), .val (.int p1), .val (.int p2), .val (.int v2), .val (.ref (A nj)), .val (.ref b4), .val (.ref b31), .unset, .unset, .unset, .unset, .unset, .unset] [(.int v2), (.ref b4)])) rfl rfl (hb hby at_147) _ ?_
    show Steps p.tables e below (T71.setTop (mkF m 148 #[.val (.int p0), .val (.int p1), .val (.int p2), .val (.int v2), .val (.ref (A nj)), .val (.ref b4), .val (.ref b31), .unset, .unset, .unset, .unset, .unset, .unset] [(.int (own_min nj))])) _
    refine XS.istore X71.here hx rfl (hb hby at_148) rfl (l' := #[.val (.int p0), .val (.int p1), .val (.int p2), .val (.int v2), .val (.ref (A nj)), .val (.ref b4), .val (.ref b31), .val (.int (own_min nj)), .unset, .unset, .unset, .unset, .unset]) rfl ?_
    show Steps p.tables e below (T71.setTop (mkF m 150 #[.val (.int p0), .val (.int p1), .val (.int p2), .val (.int v2), .val (.ref (A nj)), .val (.ref b4), .val (.ref b31), .val (.int (own_min nj)), .unset, .unset, .unset, .unset, .unset] [])) _
    refine XS.aload X71.here hx rfl (hb hby at_150) rfl rfl ?_
    show Steps p.tables e below (T71.setTop (mkF m 152 #[.val (.int p0), .val (.int p1), .val (.int p2), .val (.int v2), .val (.ref (A nj)), .val (.ref b4), .val (.ref b31), .val (.int (own_min nj)), .unset, .unset, .unset, .unset, .unset] [(.ref b31)])) _
    refine XS.iloadN X71.here hx rfl (hb hby at_152) rfl ?_
    show Steps p.tables e below (T71.setTop (mkF m 153 #[.val (.int p0), .val (.int p1), .val (.int p2), .val (.int v2), .val (.ref (A nj)), .val (.ref b4), .val (.ref b31), .val (.int (own_min nj)), .unset, .unset, .unset, .unset, .unset] [(.int v2), (.ref b31)])) _
    refine X71.iaload hx (j := v2) (v := (.int (own_max nj))) (by rw [e71]; exact Ar87.1) (State.isArrayOf_alike hZ.alike Ar87.2.1) Ar87.2.2 hin87 hat87 (g := (mkF m 153 #[.val (.int p0), .val (.int p1), .val (.int p2), .val (.int v2), .val (.ref (A nj)), .val (.ref b4), .val (.ref b31), .val (.int (own_min nj)), .unset, .unset, .unset, .unset, .unset] [(.int v2), (.ref b31)])) rfl rfl (hb hby at_153) _ ?_
    show Steps p.tables e below (T71.setTop (mkF m 154 #[.val (.int p0), .val (.int p1), .val (.int p2), .val (.int v2), .val (.ref (A nj)), .val (.ref b4), .val (.ref b31), .val (.int (own_min nj)), .unset, .unset, .unset, .unset, .unset] [(.int (own_max nj))])) _
    refine XS.istore X71.here hx rfl (hb hby at_154) rfl (l' := #[.val (.int p0), .val (.int p1), .val (.int p2), .val (.int v2), .val (.ref (A nj)), .val (.ref b4), .val (.ref b31), .val (.int (own_min nj)), .val (.int (own_max nj)), .unset, .unset, .unset, .unset]) rfl ?_
    show Steps p.tables e below (T71.setTop (mkF m 156 #[.val (.int p0), .val (.int p1), .val (.int p2), .val (.int v2), .val (.ref (A nj)), .val (.ref b4), .val (.ref b31), .val (.int (own_min nj)), .val (.int (own_max nj)), .unset, .unset, .unset, .unset] [])) _
    refine XS.iloadN X71.here hx rfl (hb hby at_156) rfl ?_
    show Steps p.tables e below (T71.setTop (mkF m 157 #[.val (.int p0), .val (.int p1), .val (.int p2), .val (.int v2), .val (.ref (A nj)), .val (.ref b4), .val (.ref b31), .val (.int (own_min nj)), .val (.int (own_max nj)), .unset, .unset, .unset, .unset] [(.int p1)])) _
    refine XS.bipush X71.here hx rfl (hb hby at_157) ?_
    show Steps p.tables e below (T71.setTop (mkF m 159 #[.val (.int p0), .val (.int p1), .val (.int p2), .val (.int v2), .val (.ref (A nj)), .val (.ref b4), .val (.ref b31), .val (.int (own_min nj)), .val (.int (own_max nj)), .unset, .unset, .unset, .unset] [(.int (7 : Int32)), (.int p1)])) _
    refine XS.iand X71.here hx rfl (hb hby at_159) rfl ?_
    show Steps p.tables e below (T71.setTop (mkF m 160 #[.val (.int p0), .val (.int p1), .val (.int p2), .val (.int v2), .val (.ref (A nj)), .val (.ref b4), .val (.ref b31), .val (.int (own_min nj)), .val (.int (own_max nj)), .unset, .unset, .unset, .unset] [(.int (p1 &&& (7 : Int32)))])) _
    refine XS.istore X71.here hx rfl (hb hby at_160) rfl (l' := #[.val (.int p0), .val (.int p1), .val (.int p2), .val (.int v2), .val (.ref (A nj)), .val (.ref b4), .val (.ref b31), .val (.int (own_min nj)), .val (.int (own_max nj)), .val (.int (p1 &&& (7 : Int32))), .unset, .unset, .unset]) rfl ?_
    show Steps p.tables e below (T71.setTop (mkF m 162 #[.val (.int p0), .val (.int p1), .val (.int p2), .val (.int v2), .val (.ref (A nj)), .val (.ref b4), .val (.ref b31), .val (.int (own_min nj)), .val (.int (own_max nj)), .val (.int (p1 &&& (7 : Int32))), .unset, .unset, .unset] [])) _
    refine XS.iload X71.here hx rfl (hb hby at_162) rfl ?_
    exact kt
  refine Done.of ?_ K88
  by_cases hc164_89 : (p1 &&& (7 : Int32)) = (0 : Int32)
  · have K : ∀ target, Steps p.tables e below (T71.setTop (mkF m 167 #[.val (.int p0), .val (.int p1), .val (.int p2), .val (.int v2), .val (.ref (A nj)), .val (.ref b4), .val (.ref b31), .val (.int (own_min nj)), .val (.int (own_max nj)), .val (.int (p1 &&& (7 : Int32))), .unset, .unset, .unset] [])) target → Steps p.tables e below (T71.setTop (mkF m 164 #[.val (.int p0), .val (.int p1), .val (.int p2), .val (.int v2), .val (.ref (A nj)), .val (.ref b4), .val (.ref b31), .val (.int (own_min nj)), .val (.int (own_max nj)), .val (.int (p1 &&& (7 : Int32))), .unset, .unset, .unset] [(.int (p1 &&& (7 : Int32)))])) target := by
      intro target kt
      refine XS.ifNo X71.here hx rfl (hb hby at_164) rfl ((if0 _ _).trans (teq hc164_89).2) ?_
      exact kt
    refine Done.of ?_ K
    have cy90 := ((Fmin nj ltj).ext E4)
    have cy91 := (cy90.other W6 (Or.inl ne_4_1))
    have cy92 := (cy91.other W8 (Or.inl ne_4_1))
    have cy93 := (cy92.other W10 (Or.inl ne_4_1))
    have cy94 := (cy93.other W12 (Or.inl ne_4_1))
    have cy95 := (cy94.other W14 (Or.inl ne_4_1))
    have cy96 := (cy95.other W16 (Or.inl ne_4_1))
    have cy97 := (cy96.other W18 (Or.inl ne_4_1))
    have cy98 := (cy97.other W20 (Or.inl ne_4_1))
    have cy99 := (cy98.other W22 (Or.inl ne_4_1))
    have cy100 := (cy99.other W24 (Or.inl ne_4_1))
    have cy101 := (cy100.other W26 (Or.inl ne_4_1))
    have cy102 := (cy101.other W28 (Or.inl ne_4_1))
    have cy103 := (cy102.other W30 (Or.inl ne_4_1))
    have cy104 := (cy103.ext E31)
    have cy105 := (cy104.other W47 (Or.inl ne_31_1))
    have cy106 := (cy105.other W49 (Or.inl ne_31_1))
    have cy107 := (cy106.other W51 (Or.inl ne_31_1))
    have cy108 := (cy107.other W53 (Or.inl ne_31_1))
    have cy109 := (cy108.other W55 (Or.inl ne_31_1))
    have cy110 := (cy109.other W57 (Or.inl ne_31_1))
    have cy111 := (cy110.other W59 (Or.inl ne_31_1))
    have cy112 := (cy111.other W61 (Or.inl ne_31_1))
    have cy113 := (cy112.other W63 (Or.inl ne_31_1))
    have cy114 := (cy113.other W65 (Or.inl ne_31_1))
    have cy115 := (cy114.other W67 (Or.inl ne_31_1))
    have cy116 := (cy115.other W69 (Or.inl ne_31_1))
    have cy117 := (cy116.other W71 (Or.inl ne_31_1))
    have cy118 := ((Fmax nj ltj).ext E4)
    have cy119 := (cy118.other W6 (Or.inl ne_4_1))
    have cy120 := (cy119.other W8 (Or.inl ne_4_1))
    have cy121 := (cy120.other W10 (Or.inl ne_4_1))
    have cy122 := (cy121.other W12 (Or.inl ne_4_1))
    have cy123 := (cy122.other W14 (Or.inl ne_4_1))
    have cy124 := (cy123.other W16 (Or.inl ne_4_1))
    have cy125 := (cy124.other W18 (Or.inl ne_4_1))
    have cy126 := (cy125.other W20 (Or.inl ne_4_1))
    have cy127 := (cy126.other W22 (Or.inl ne_4_1))
    have cy128 := (cy127.other W24 (Or.inl ne_4_1))
    have cy129 := (cy128.other W26 (Or.inl ne_4_1))
    have cy130 := (cy129.other W28 (Or.inl ne_4_1))
    have cy131 := (cy130.other W30 (Or.inl ne_4_1))
    have cy132 := (cy131.ext E31)
    have cy133 := (cy132.other W47 (Or.inl ne_31_1))
    have cy134 := (cy133.other W49 (Or.inl ne_31_1))
    have cy135 := (cy134.other W51 (Or.inl ne_31_1))
    have cy136 := (cy135.other W53 (Or.inl ne_31_1))
    have cy137 := (cy136.other W55 (Or.inl ne_31_1))
    have cy138 := (cy137.other W57 (Or.inl ne_31_1))
    have cy139 := (cy138.other W59 (Or.inl ne_31_1))
    have cy140 := (cy139.other W61 (Or.inl ne_31_1))
    have cy141 := (cy140.other W63 (Or.inl ne_31_1))
    have cy142 := (cy141.other W65 (Or.inl ne_31_1))
    have cy143 := (cy142.other W67 (Or.inl ne_31_1))
    have cy144 := (cy143.other W69 (Or.inl ne_31_1))
    have cy145 := (cy144.other W71 (Or.inl ne_31_1))
    have cy147 := (cy45.ext E31)
    have cy148 := (cy147.wr W47)
    have cy149 := (cy148.wr W49)
    have cy150 := (cy149.wr W51)
    have cy151 := (cy150.wr W53)
    have cy152 := (cy151.wr W55)
    have cy153 := (cy152.wr W57)
    have cy154 := (cy153.wr W59)
    have cy155 := (cy154.wr W61)
    have cy156 := (cy155.wr W63)
    have cy157 := (cy156.wr W65)
    have cy158 := (cy157.wr W67)
    have cy159 := (cy158.wr W69)
    have cy160 := (cy159.wr W71)
    obtain ⟨cq146, kq146, q146a, q146b, q146c⟩ := isOf hZ e71 cy160
    obtain ⟨_, _, ⟨T146, L146, k146, n146⟩, -, X146, ⟨Lc146, hQ146, l146, y146, z146⟩, st146⟩ := X71.virtualBack hx (y := (⟨"com/example/brokerwire/brokerwire/ApiKey", "implementsVersion", "(S)Z"⟩ : MethodName)) (z := (⟨"com/example/brokerwire/brokerwire/ApiKey", "implementsVersion", "(S)Z"⟩ : MethodName)) hown (mvT hZ (hw _ (List.mem_of_getElem? (i := 9) rfl))) (mvT hZ (hw _ (List.mem_of_getElem? (i := 10) rfl))) (notFace_of_selects (args := #[]) (mvT hZ (hw _ (List.mem_of_getElem? (i := 12) rfl)))) (mvT hZ (hw _ (List.mem_of_getElem? (i := 12) rfl))) (mvT hZ (hw _ (List.mem_of_getElem? (i := 11) rfl))) (by decide) (backOf (W := 0) (rm2 l Z a0 hw [] (A nj) (((own_min nj) - (1 : Int32)).toInt16.toInt32) (own_min nj) (own_max nj) h71 n0 Z71 cy117 cy145) hZ (hw _ (List.mem_of_getElem? (i := 13) rfl)) (hw _ (List.mem_of_getElem? (i := 6) rfl)) (by decide) (by decide)) q146a q146c (g := (mkF m 266 #[.val (.int p0), .val (.int p1), .val (.int p2), .val (.int v2), .val (.ref (A nj)), .val (.ref b4), .val (.ref b31), .val (.int (own_min nj)), .val (.int (own_max nj)), .val (.int (p1 &&& (7 : Int32))), .val (.int (((own_min nj) - (1 : Int32)).toInt16.toInt32)), .val (.int (0 : Int32)), .unset] [(.int (((own_min nj) - (1 : Int32)).toInt16.toInt32)), (.ref (A nj))])) rfl (by rw [hml]; rfl) (Steps.refl _) (argsL := [(.int (((own_min nj) - (1 : Int32)).toInt16.toInt32))]) (rest := []) (lenOf pd_1 rfl) rfl (by show 2 * 0 + _ ≤ _; exact Nat.le_of_eq rfl) (hb hby at_266) (fun _ _ => ⟨rfl, e71, (by decide : 2 + 0 ≤ _), (by decide : 26 + 0 ≤ _)⟩)
    dsimp only [Pt.U, Pt.locs, Pt.cells, Pt.slots] at X146 l146 y146 z146 st146 hQ146
    rw [l146, y146, z146] at X146
    obtain ⟨rfl, N146q, e146⟩ := hQ146
    have N146 := Fr.app N71 N146q
    have J271_161 : ∀ wj : Int32, wj = (if (if (((own_min nj) - (1 : Int32)).toInt16.toInt32) < (own_min nj) then (0 : Int32) else (if (own_max nj) < (((own_min nj) - (1 : Int32)).toInt16.toInt32) then (0 : Int32) else (1 : Int32))) = (0 : Int32) then (1 : Int32) else (0 : Int32)) → ∀ target, Steps p.tables e below (T146.setTop (mkF m 279 #[.val (.int p0), .val (.int p1), .val (.int p2), .val (.int v2), .val (.ref (A nj)), .val (.ref b4), .val (.ref b31), .val (.int (own_min nj)), .val (.int (own_max nj)), .val (.int (p1 &&& (7 : Int32))), .val (.int (((own_min nj) - (1 : Int32)).toInt16.toInt32)), .val (.int (0 : Int32)), .unset] [(.int wj)])) target → Steps p.tables e below (T146.setTop (mkF m 271 #[.val (.int p0), .val (.int p1), .val (.int p2), .val (.int v2), .val (.ref (A nj)), .val (.ref b4), .val (.ref b31), .val (.int (own_min nj)), .val (.int (own_max nj)), .val (.int (p1 &&& (7 : Int32))), .val (.int (((own_min nj) - (1 : Int32)).toInt16.toInt32)), .val (.int (0 : Int32)), .unset] [(.int (0 : Int32)), (.int (if (((own_min nj) - (1 : Int32)).toInt16.toInt32) < (own_min nj) then (0 : Int32) else (if (own_max nj) < (((own_min nj) - (1 : Int32)).toInt16.toInt32) then (0 : Int32) else (1 : Int32))))])) target := by
      intro wj hw0 target kt
      by_cases hj271 : (if (((own_min nj) - (1 : Int32)).toInt16.toInt32) < (own_min nj) then (0 : Int32) else (if (own_max nj) < (((own_min nj) - (1 : Int32)).toInt16.toInt32) then (0 : Int32) else (1 : Int32))) = (0 : Int32)
      · rw [if_pos hj271] at hw0
        show Steps p.tables e below (T146.setTop (mkF m 271 #[.val (.int p0), .val (.int p1), .val (.int p2), .val (.int v2), .val (.ref (A nj)), .val (.ref b4), .val (.ref b31), .val (.int (own_min nj)), .val (.int (own_max nj)), .val (.int (p1 &&& (7 : Int32))), .val (.int (((own_min nj) - (1 : Int32)).toInt16.toInt32)), .val (.int (0 : Int32)), .unset] [(.int (0 : Int32)), (.int (if (((own_min nj) - (1 : Int32)).toInt16.toInt32) < (own_min nj) then (0 : Int32) else (if (own_max nj) < (((own_min nj) - (1 : Int32)).toInt16.toInt32) then (0 : Int32) else (1 : Int32))))])) _
        refine XS.icmpNo X146.here hx rfl (hb hby at_271) rfl (teq hj271).2 ?_
        show Steps p.tables e below (T146.setTop (mkF m 274 #[.val (.int p0), .val (.int p1), .val (.int p2), .val (.int v2), .val (.ref (A nj)), .val (.ref b4), .val (.ref b31), .val (.int (own_min nj)), .val (.int (own_max nj)), .val (.int (p1 &&& (7 : Int32))), .val (.int (((own_min nj) - (1 : Int32)).toInt16.toInt32)), .val (.int (0 : Int32)), .unset] [])) _
        refine XS.iconst X146.here hx rfl (hb hby at_274) ?_
        show Steps p.tables e below (T146.setTop (mkF m 275 #[.val (.int p0), .val (.int p1), .val (.int p2), .val (.int v2), .val (.ref (A nj)), .val (.ref b4), .val (.ref b31), .val (.int (own_min nj)), .val (.int (own_max nj)), .val (.int (p1 &&& (7 : Int32))), .val (.int (((own_min nj) - (1 : Int32)).toInt16.toInt32)), .val (.int (0 : Int32)), .unset] [(.int (1 : Int32))])) _
        refine XS.goto X146.here hx rfl (pc0 := 275) (pc' := 279) rfl (hb hby at_275) (by decide) (by decide) ?_
        rw [hw0] at kt
        exact kt
      · rw [if_neg hj271] at hw0
        show Steps p.tables e below (T146.setTop (mkF m 271 #[.val (.int p0), .val (.int p1), .val (.int p2), .val (.int v2), .val (.ref (A nj)), .val (.ref b4), .val (.ref b31), .val (.int (own_min nj)), .val (.int (own_max nj)), .val (.int (p1 &&& (7 : Int32))), .val (.int (((own_min nj) - (1 : Int32)).toInt16.toInt32)), .val (.int (0 : Int32)), .unset] [(.int (0 : Int32)), (.int (if (((own_min nj) - (1 : Int32)).toInt16.toInt32) < (own_min nj) then (0 : Int32) else (if (own_max nj) < (((own_min nj) - (1 : Int32)).toInt16.toInt32) then (0 : Int32) else (1 : Int32))))])) _
        refine XS.icmpYes X146.here hx rfl (pc0 := 271) (pc' := 278) rfl (hb hby at_271) rfl (feq hj271).2 (by decide) (by decide) ?_
        refine XS.iconst X146.here hx rfl (hb hby at_278) ?_
        rw [hw0] at kt
        exact kt
    obtain ⟨fs, hr, hrun, hended, hW, hsame⟩ := X146.leave (v := some (.int (nar .boolean (if (if (((own_min nj) - (1 : Int32)).toInt16.toInt32) < (own_min nj) then (0 : Int32) else (if (own_max nj) < (((own_min nj) - (1 : Int32)).toInt16.toInt32) then (0 : Int32) else (1 : Int32))) = (0 : Int32) then (1 : Int32) else (0 : Int32))))) (fun h => by rw [Bd.returns] at h; cases h)
    refine ⟨_, _, ?_, hrun, hended, _, _, rfl, ?_, ⟨_, rfl⟩, hW, hsame.mono (by decide) (by decide)⟩
    · show Steps p.tables e below (T71.setTop (mkF m 167 #[.val (.int p0), .val (.int p1), .val (.int p2), .val (.int v2), .val (.ref (A nj)), .val (.ref b4), .val (.ref b31), .val (.int (own_min nj)), .val (.int (own_max nj)), .val (.int (p1 &&& (7 : Int32))), .unset, .unset, .unset] [])) _
      refine XS.iload X71.here hx rfl (hb hby at_167) rfl ?_
      show Steps p.tables e below (T71.setTop (mkF m 169 #[.val (.int p0), .val (.int p1), .val (.int p2), .val (.int v2), .val (.ref (A nj)), .val (.ref b4), .val (.ref b31), .val (.int (own_min nj)), .val (.int (own_max nj)), .val (.int (p1 &&& (7 : Int32))), .unset, .unset, .unset] [(.int (own_min nj))])) _
      refine XS.iconst X71.here hx rfl (hb hby at_169) ?_
      show Steps p.tables e below (T71.setTop (mkF m 170 #[.val (.int p0), .val (.int p1), .val (.int p2), .val (.int v2), .val (.ref (A nj)), .val (.ref b4), .val (.ref b31), .val (.int (own_min nj)), .val (.int (own_max nj)), .val (.int (p1 &&& (7 : Int32))), .unset, .unset, .unset] [(.int (1 : Int32)), (.int (own_min nj))])) _
      refine XS.isub X71.here hx rfl (hb hby at_170) rfl ?_
      show Steps p.tables e below (T71.setTop (mkF m 171 #[.val (.int p0), .val (.int p1), .val (.int p2), .val (.int v2), .val (.ref (A nj)), .val (.ref b4), .val (.ref b31), .val (.int (own_min nj)), .val (.int (own_max nj)), .val (.int (p1 &&& (7 : Int32))), .unset, .unset, .unset] [(.int ((own_min nj) - (1 : Int32)))])) _
      refine XS.i2s X71.here hx rfl (hb hby at_171) rfl ?_
      show Steps p.tables e below (T71.setTop (mkF m 172 #[.val (.int p0), .val (.int p1), .val (.int p2), .val (.int v2), .val (.ref (A nj)), .val (.ref b4), .val (.ref b31), .val (.int (own_min nj)), .val (.int (own_max nj)), .val (.int (p1 &&& (7 : Int32))), .unset, .unset, .unset] [(.int (((own_min nj) - (1 : Int32)).toInt16.toInt32))])) _
      refine XS.istore X71.here hx rfl (hb hby at_172) rfl (l' := #[.val (.int p0), .val (.int p1), .val (.int p2), .val (.int v2), .val (.ref (A nj)), .val (.ref b4), .val (.ref b31), .val (.int (own_min nj)), .val (.int (own_max nj)), .val (.int (p1 &&& (7 : Int32))), .val (.int (((own_min nj) - (1 : Int32)).toInt16.toInt32)), .unset, .unset]) rfl ?_
      show Steps p.tables e below (T71.setTop (mkF m 174 #[.val (.int p0), .val (.int p1), .val (.int p2), .val (.int v2), .val (.ref (A nj)), .val (.ref b4), .val (.ref b31), .val (.int (own_min nj)), .val (.int (own_max nj)), .val (.int (p1 &&& (7 : Int32))), .val (.int (((own_min nj) - (1 : Int32)).toInt16.toInt32)), .unset, .unset] [])) _
      refine XS.iconst X71.here hx rfl (hb hby at_174) ?_
      refine XS.istore X71.here hx rfl (hb hby at_175) rfl (l' := #[.val (.int p0), .val (.int p1), .val (.int p2), .val (.int v2), .val (.ref (A nj)), .val (.ref b4), .val (.ref b31), .val (.int (own_min nj)), .val (.int (own_max nj)), .val (.int (p1 &&& (7 : Int32))), .val (.int (((own_min nj) - (1 : Int32)).toInt16.toInt32)), .val (.int (0 : Int32)), .unset]) rfl ?_
      show Steps p.tables e below (T71.setTop (mkF m 177 #[.val (.int p0), .val (.int p1), .val (.int p2), .val (.int v2), .val (.ref (A nj)), .val (.ref b4), .val (.ref b31), .val (.int (own_min nj)), .val (.int (own_max nj)), .val (.int (p1 &&& (7 : Int32))), .val (.int (((own_min nj) - (1 : Int32)).toInt16.toInt32)), .val (.int (0 : Int32)), .unset] [])) _
      refine XS.goto X71.here hx rfl (pc0 := 177) (pc' := 262) rfl (hb hby at_177) (by decide) (by decide) ?_
      show Steps p.tables e below (T71.setTop (mkF m 262 #[.val (.int p0), .val (.int p1), .val (.int p2), .val (.int v2), .val (.ref (A nj)), .val (.ref b4), .val (.ref b31), .val (.int (own_min nj)), .val (.int (own_max nj)), .val (.int (p1 &&& (7 : Int32))), .val (.int (((own_min nj) - (1 : Int32)).toInt16.toInt32)), .val (.int (0 : Int32)), .unset] [])) _
      refine XS.aload X71.here hx rfl (hb hby at_262) rfl rfl ?_
      refine XS.iload X71.here hx rfl (hb hby at_264) rfl ?_
      refine st146.trans ?_
      refine XS.iload X146.here hx rfl (hb hby at_269) rfl ?_
      show Steps p.tables e below (T146.setTop (mkF m 271 #[.val (.int p0), .val (.int p1), .val (.int p2), .val (.int v2), .val (.ref (A nj)), .val (.ref b4), .val (.ref b31), .val (.int (own_min nj)), .val (.int (own_max nj)), .val (.int (p1 &&& (7 : Int32))), .val (.int (((own_min nj) - (1 : Int32)).toInt16.toInt32)), .val (.int (0 : Int32)), .unset] [(.int (0 : Int32)), (.int (if (((own_min nj) - (1 : Int32)).toInt16.toInt32) < (own_min nj) then (0 : Int32) else (if (own_max nj) < (((own_min nj) - (1 : Int32)).toInt16.toInt32) then (0 : Int32) else (1 : Int32))))])) _
      refine J271_161 _ rfl _ ?_
      show Steps p.tables e below (T146.setTop (mkF m 279 #[.val (.int p0), .val (.int p1), .val (.int p2), .val (.int v2), .val (.ref (A nj)), .val (.ref b4), .val (.ref b31), .val (.int (own_min nj)), .val (.int (own_max nj)), .val (.int (p1 &&& (7 : Int32))), .val (.int (((own_min nj) - (1 : Int32)).toInt16.toInt32)), .val (.int (0 : Int32)), .unset] [(.int (if (if (((own_min nj) - (1 : Int32)).toInt16.toInt32) < (own_min nj) then (0 : Int32) else (if (own_max nj) < (((own_min nj) - (1 : Int32)).toInt16.toInt32) then (0 : Int32) else (1 : Int32))) = (0 : Int32) then (1 : Int32) else (0 : Int32)))])) _
      exact retN X146 hx (t := .boolean) Bd.returns (by simp) (hb hby at_279) hr
    · show Q0 Z p0 p1 p2 A h0 n0 _ T146.heap _
      rw [e146]
      refine ⟨?_, N146⟩
      have hm : (if (((own_min nj) - (1 : Int32)).toInt16.toInt32) < (own_min nj) then (0 : Int32) else (if (own_max nj) < (((own_min nj) - (1 : Int32)).toInt16.toInt32) then (0 : Int32) else (1 : Int32))) = (0 : Int32) := own_m0 ⟨nj, ltj⟩
      rw [if_pos hm]
      rfl
  · have K : ∀ target, Steps p.tables e below (T71.setTop (mkF m 180 #[.val (.int p0), .val (.int p1), .val (.int p2), .val (.int v2), .val (.ref (A nj)), .val (.ref b4), .val (.ref b31), .val (.int (own_min nj)), .val (.int (own_max nj)), .val (.int (p1 &&& (7 : Int32))), .unset, .unset, .unset] [])) target → Steps p.tables e below (T71.setTop (mkF m 164 #[.val (.int p0), .val (.int p1), .val (.int p2), .val (.int v2), .val (.ref (A nj)), .val (.ref b4), .val (.ref b31), .val (.int (own_min nj)), .val (.int (own_max nj)), .val (.int (p1 &&& (7 : Int32))), .unset, .unset, .unset] [(.int (p1 &&& (7 : Int32)))])) target := by
      intro target kt
      refine XS.ifYes X71.here hx rfl (pc0 := 164) (pc' := 180) rfl (hb hby at_164) rfl ((if0 _ _).trans (feq hc164_89).2) (by decide) (by decide) ?_
      exact kt
    refine Done.of ?_ K
    have K162 : ∀ target, Steps p.tables e below (T71.setTop (mkF m 183 #[.val (.int p0), .val (.int p1), .val (.int p2), .val (.int v2), .val (.ref (A nj)), .val (.ref b4), .val (.ref b31), .val (.int (own_min nj)), .val (.int (own_max nj)), .val (.int (p1 &&& (7 : Int32))), .unset, .unset, .unset] [(.int (1 : Int32)), (.int (p1 &&& (7 : Int32)))])) target → Steps p.tables e below (T71.setTop (mkF m 180 #[.val (.int p0), .val (.int p1), .val (.int p2), .val (.int v2), .val (.ref (A nj)), .val (.ref b4), .val (.ref b31), .val (.int (own_min nj)), .val (.int (own_max nj)), .val (.int (p1 &&& (7 : Int32))), .unset, .unset, .unset] [])) target := by
      intro target kt
      show Steps p.tables e below (T71.setTop (mkF m 180 #[.val (.int p0), .val (.int p1), .val (.int p2), .val (.int v2), .val (.ref (A nj)), .val (.ref b4), .val (.ref b31), .val (.int (own_min nj)), .val (.int (own_max nj)), .val (.int (p1 &&& (7 : Int32))), .unset, .unset, .unset] [])) _
      refine XS.iload X71.here hx rfl (hb hby at_180) rfl ?_
      show Steps p.tables e below (T71.setTop (mkF m 182 #[.val (.int p0), .val (.int p1), .val (.int p2), .val (.int v2), .val (.ref (A nj)), .val (.ref b4), .val (.ref b31), .val (.int (own_min nj)), .val (.int (own_max nj)), .val (.int (p1 &&& (7 : Int32))), .unset, .unset, .unset] [(.int (p1 &&& (7 : Int32)))])) _
      refine XS.iconst X71.here hx rfl (hb hby at_182) ?_
      exact kt
    refine Done.of ?_ K162
    by_cases hc183_163 : (p1 &&& (7 : Int32)) = (1 : Int32)
    · have K : ∀ target, Steps p.tables e below (T71.setTop (mkF m 186 #[.val (.int p0), .val (.int p1), .val (.int p2), .val (.int v2), .val (.ref (A nj)), .val (.ref b4), .val (.ref b31), .val (.int (own_min nj)), .val (.int (own_max nj)), .val (.int (p1 &&& (7 : Int32))), .unset, .unset, .unset] [])) target → Steps p.tables e below (T71.setTop (mkF m 183 #[.val (.int p0), .val (.int p1), .val (.int p2), .val (.int v2), .val (.ref (A nj)), .val (.ref b4), .val (.ref b31), .val (.int (own_min nj)), .val (.int (own_max nj)), .val (.int (p1 &&& (7 : Int32))), .unset, .unset, .unset] [(.int (1 : Int32)), (.int (p1 &&& (7 : Int32)))])) target := by
        intro target kt
        refine XS.icmpNo X71.here hx rfl (hb hby at_183) rfl (teq hc183_163).2 ?_
        exact kt
      refine Done.of ?_ K
      have cy164 := ((Fmin nj ltj).ext E4)
      have cy165 := (cy164.other W6 (Or.inl ne_4_1))
      have cy166 := (cy165.other W8 (Or.inl ne_4_1))
      have cy167 := (cy166.other W10 (Or.inl ne_4_1))
      have cy168 := (cy167.other W12 (Or.inl ne_4_1))
      have cy169 := (cy168.other W14 (Or.inl ne_4_1))
      have cy170 := (cy169.other W16 (Or.inl ne_4_1))
      have cy171 := (cy170.other W18 (Or.inl ne_4_1))
      have cy172 := (cy171.other W20 (Or.inl ne_4_1))
      have cy173 := (cy172.other W22 (Or.inl ne_4_1))
      have cy174 := (cy173.other W24 (Or.inl ne_4_1))
      have cy175 := (cy174.other W26 (Or.inl ne_4_1))
      have cy176 := (cy175.other W28 (Or.inl ne_4_1))
      have cy177 := (cy176.other W30 (Or.inl ne_4_1))
      have cy178 := (cy177.ext E31)
      have cy179 := (cy178.other W47 (Or.inl ne_31_1))
      have cy180 := (cy179.other W49 (Or.inl ne_31_1))
      have cy181 := (cy180.other W51 (Or.inl ne_31_1))
      have cy182 := (cy181.other W53 (Or.inl ne_31_1))
      have cy183 := (cy182.other W55 (Or.inl ne_31_1))
      have cy184 := (cy183.other W57 (Or.inl ne_31_1))
      have cy185 := (cy184.other W59 (Or.inl ne_31_1))
      have cy186 := (cy185.other W61 (Or.inl ne_31_1))
      have cy187 := (cy186.other W63 (Or.inl ne_31_1))
      have cy188 := (cy187.other W65 (Or.inl ne_31_1))
      have cy189 := (cy188.other W67 (Or.inl ne_31_1))
      have cy190 := (cy189.other W69 (Or.inl ne_31_1))
      have cy191 := (cy190.other W71 (Or.inl ne_31_1))
      have cy192 := ((Fmax nj ltj).ext E4)
      have cy193 := (cy192.other W6 (Or.inl ne_4_1))
      have cy194 := (cy193.other W8 (Or.inl ne_4_1))
      have cy195 := (cy194.other W10 (Or.inl ne_4_1))
      have cy196 := (cy195.other W12 (Or.inl ne_4_1))
      have cy197 := (cy196.other W14 (Or.inl ne_4_1))
      have cy198 := (cy197.other W16 (Or.inl ne_4_1))
      have cy199 := (cy198.other W18 (Or.inl ne_4_1))
      have cy200 := (cy199.other W20 (Or.inl ne_4_1))
      have cy201 := (cy200.other W22 (Or.inl ne_4_1))
      have cy202 := (cy201.other W24 (Or.inl ne_4_1))
      have cy203 := (cy202.other W26 (Or.inl ne_4_1))
      have cy204 := (cy203.other W28 (Or.inl ne_4_1))
      have cy205 := (cy204.other W30 (Or.inl ne_4_1))
      have cy206 := (cy205.ext E31)
      have cy207 := (cy206.other W47 (Or.inl ne_31_1))
      have cy208 := (cy207.other W49 (Or.inl ne_31_1))
      have cy209 := (cy208.other W51 (Or.inl ne_31_1))
      have cy210 := (cy209.other W53 (Or.inl ne_31_1))
      have cy211 := (cy210.other W55 (Or.inl ne_31_1))
      have cy212 := (cy211.other W57 (Or.inl ne_31_1))
      have cy213 := (cy212.other W59 (Or.inl ne_31_1))
      have cy214 := (cy213.other W61 (Or.inl ne_31_1))
      have cy215 := (cy214.other W63 (Or.inl ne_31_1))
      have cy216 := (cy215.other W65 (Or.inl ne_31_1))
      have cy217 := (cy216.other W67 (Or.inl ne_31_1))
      have cy218 := (cy217.other W69 (Or.inl ne_31_1))
      have cy219 := (cy218.other W71 (Or.inl ne_31_1))
      have cy221 := (cy45.ext E31)
      have cy222 := (cy221.wr W47)
      have cy223 := (cy222.wr W49)
      have cy224 := (cy223.wr W51)
      have cy225 := (cy224.wr W53)
      have cy226 := (cy225.wr W55)
      have cy227 := (cy226.wr W57)
      have cy228 := (cy227.wr W59)
      have cy229 := (cy228.wr W61)
      have cy230 := (cy229.wr W63)
      have cy231 := (cy230.wr W65)
      have cy232 := (cy231.wr W67)
      have cy233 := (cy232.wr W69)
      have cy234 := (cy233.wr W71)
      obtain ⟨cq220, kq220, q220a, q220b, q220c⟩ := isOf hZ e71 cy234
      obtain ⟨_, _, ⟨T220, L220, k220, n220⟩, -, X220, ⟨Lc220, hQ220, l220, y220, z220⟩, st220⟩ := X71.virtualBack hx (y := (⟨"com/example/brokerwire/brokerwire/ApiKey", "implementsVersion", "(S)Z"⟩ : MethodName)) (z := (⟨"com/example/brokerwire/brokerwire/ApiKey", "implementsVersion", "(S)Z"⟩ : MethodName)) hown (mvT hZ (hw _ (List.mem_of_getElem? (i := 9) rfl))) (mvT hZ (hw _ (List.mem_of_getElem? (i := 10) rfl))) (notFace_of_selects (args := #[]) (mvT hZ (hw _ (List.mem_of_getElem? (i := 12) rfl)))) (mvT hZ (hw _ (List.mem_of_getElem? (i := 12) rfl))) (mvT hZ (hw _ (List.mem_of_getElem? (i := 11) rfl))) (by decide) (backOf (W := 0) (rm2 l Z a0 hw [] (A nj) ((own_min nj).toInt16.toInt32) (own_min nj) (own_max nj) h71 n0 Z71 cy191 cy219) hZ (hw _ (List.mem_of_getElem? (i := 13) rfl)) (hw _ (List.mem_of_getElem? (i := 6) rfl)) (by decide) (by decide)) q220a q220c (g := (mkF m 266 #[.val (.int p0), .val (.int p1), .val (.int p2), .val (.int v2), .val (.ref (A nj)), .val (.ref b4), .val (.ref b31), .val (.int (own_min nj)), .val (.int (own_max nj)), .val (.int (p1 &&& (7 : Int32))), .val (.int ((own_min nj).toInt16.toInt32)), .val (.int (1 : Int32)), .unset] [(.int ((own_min nj).toInt16.toInt32)), (.ref (A nj))])) rfl (by rw [hml]; rfl) (Steps.refl _) (argsL := [(.int ((own_min nj).toInt16.toInt32))]) (rest := []) (lenOf pd_1 rfl) rfl (by show 2 * 0 + _ ≤ _; exact Nat.le_of_eq rfl) (hb hby at_266) (fun _ _ => ⟨rfl, e71, (by decide : 2 + 0 ≤ _), (by decide : 26 + 0 ≤ _)⟩)
      dsimp only [Pt.U, Pt.locs, Pt.cells, Pt.slots] at X220 l220 y220 z220 st220 hQ220
      rw [l220, y220, z220] at X220
      obtain ⟨rfl, N220q, e220⟩ := hQ220
      have N220 := Fr.app N71 N220q
      have J271_235 : ∀ wj : Int32, wj = (if (if ((own_min nj).toInt16.toInt32) < (own_min nj) then (0 : Int32) else (if (own_max nj) < ((own_min nj).toInt16.toInt32) then (0 : Int32) else (1 : Int32))) = (1 : Int32) then (1 : Int32) else (0 : Int32)) → ∀ target, Steps p.tables e below (T220.setTop (mkF m 279 #[.val (.int p0), .val (.int p1), .val (.int p2), .val (.int v2), .val (.ref (A nj)), .val (.ref b4), .val (.ref b31), .val (.int (own_min nj)), .val (.int (own_max nj)), .val (.int (p1 &&& (7 : Int32))), .val (.int ((own_min nj).toInt16.toInt32)), .val (.int (1 : Int32)), .unset] [(.int wj)])) target → Steps p.tables e below (T220.setTop (mkF m 271 #[.val (.int p0), .val (.int p1), .val (.int p2), .val (.int v2), .val (.ref (A nj)), .val (.ref b4), .val (.ref b31), .val (.int (own_min nj)), .val (.int (own_max nj)), .val (.int (p1 &&& (7 : Int32))), .val (.int ((own_min nj).toInt16.toInt32)), .val (.int (1 : Int32)), .unset] [(.int (1 : Int32)), (.int (if ((own_min nj).toInt16.toInt32) < (own_min nj) then (0 : Int32) else (if (own_max nj) < ((own_min nj).toInt16.toInt32) then (0 : Int32) else (1 : Int32))))])) target := by
        intro wj hw0 target kt
        by_cases hj271 : (if ((own_min nj).toInt16.toInt32) < (own_min nj) then (0 : Int32) else (if (own_max nj) < ((own_min nj).toInt16.toInt32) then (0 : Int32) else (1 : Int32))) = (1 : Int32)
        · rw [if_pos hj271] at hw0
          show Steps p.tables e below (T220.setTop (mkF m 271 #[.val (.int p0), .val (.int p1), .val (.int p2), .val (.int v2), .val (.ref (A nj)), .val (.ref b4), .val (.ref b31), .val (.int (own_min nj)), .val (.int (own_max nj)), .val (.int (p1 &&& (7 : Int32))), .val (.int ((own_min nj).toInt16.toInt32)), .val (.int (1 : Int32)), .unset] [(.int (1 : Int32)), (.int (if ((own_min nj).toInt16.toInt32) < (own_min nj) then (0 : Int32) else (if (own_max nj) < ((own_min nj).toInt16.toInt32) then (0 : Int32) else (1 : Int32))))])) _
          refine XS.icmpNo X220.here hx rfl (hb hby at_271) rfl (teq hj271).2 ?_
          show Steps p.tables e below (T220.setTop (mkF m 274 #[.val (.int p0), .val (.int p1), .val (.int p2), .val (.int v2), .val (.ref (A nj)), .val (.ref b4), .val (.ref b31), .val (.int (own_min nj)), .val (.int (own_max nj)), .val (.int (p1 &&& (7 : Int32))), .val (.int ((own_min nj).toInt16.toInt32)), .val (.int (1 : Int32)), .unset] [])) _
          refine XS.iconst X220.here hx rfl (hb hby at_274) ?_
          show Steps p.tables e below (T220.setTop (mkF m 275 #[.val (.int p0), .val (.int p1), .val (.int p2), .val (.int v2), .val (.ref (A nj)), .val (.ref b4), .val (.ref b31), .val (.int (own_min nj)), .val (.int (own_max nj)), .val (.int (p1 &&& (7 : Int32))), .val (.int ((own_min nj).toInt16.toInt32)), .val (.int (1 : Int32)), .unset] [(.int (1 : Int32))])) _
          refine XS.goto X220.here hx rfl (pc0 := 275) (pc' := 279) rfl (hb hby at_275) (by decide) (by decide) ?_
          rw [hw0] at kt
          exact kt
        · rw [if_neg hj271] at hw0
          show Steps p.tables e below (T220.setTop (mkF m 271 #[.val (.int p0), .val (.int p1), .val (.int p2), .val (.int v2), .val (.ref (A nj)), .val (.ref b4), .val (.ref b31), .val (.int (own_min nj)), .val (.int (own_max nj)), .val (.int (p1 &&& (7 : Int32))), .val (.int ((own_min nj).toInt16.toInt32)), .val (.int (1 : Int32)), .unset] [(.int (1 : Int32)), (.int (if ((own_min nj).toInt16.toInt32) < (own_min nj) then (0 : Int32) else (if (own_max nj) < ((own_min nj).toInt16.toInt32) then (0 : Int32) else (1 : Int32))))])) _
          refine XS.icmpYes X220.here hx rfl (pc0 := 271) (pc' := 278) rfl (hb hby at_271) rfl (feq hj271).2 (by decide) (by decide) ?_
          show Steps p.tables e below (T220.setTop (mkF m 278 #[.val (.int p0), .val (.int p1), .val (.int p2), .val (.int v2), .val (.ref (A nj)), .val (.ref b4), .val (.ref b31), .val (.int (own_min nj)), .val (.int (own_max nj)), .val (.int (p1 &&& (7 : Int32))), .val (.int ((own_min nj).toInt16.toInt32)), .val (.int (1 : Int32)), .unset] [])) _
          refine XS.iconst X220.here hx rfl (hb hby at_278) ?_
          rw [hw0] at kt
          exact kt
      obtain ⟨fs, hr, hrun, hended, hW, hsame⟩ := X220.leave (v := some (.int (nar .boolean (if (if ((own_min nj).toInt16.toInt32) < (own_min nj) then (0 : Int32) else (if (own_max nj) < ((own_min nj).toInt16.toInt32) then (0 : Int32) else (1 : Int32))) = (1 : Int32) then (1 : Int32) else (0 : Int32))))) (fun h => by rw [Bd.returns] at h; cases h)
      refine ⟨_, _, ?_, hrun, hended, _, _, rfl, ?_, ⟨_, rfl⟩, hW, hsame.mono (by decide) (by decide)⟩
      · show Steps p.tables e below (T71.setTop (mkF m 186 #[.val (.int p0), .val (.int p1), .val (.int p2), .val (.int v2), .val (.ref (A nj)), .val (.ref b4), .val (.ref b31), .val (.int (own_min nj)), .val (.int (own_max nj)), .val (.int (p1 &&& (7 : Int32))), .unset, .unset, .unset] [])) _
        refine XS.iload X71.here hx rfl (hb hby at_186) rfl ?_
        show Steps p.tables e below (T71.setTop (mkF m 188 #[.val (.int p0), .val (.int p1), .val (.int p2), .val (.int v2), .val (.ref (A nj)), .val (.ref b4), .val (.ref b31), .val (.int (own_min nj)), .val (.int (own_max nj)), .val (.int (p1 &&& (7 : Int32))), .unset, .unset, .unset] [(.int (own_min nj))])) _
        refine XS.i2s X71.here hx rfl (hb hby at_188) rfl ?_
        show Steps p.tables e below (T71.setTop (mkF m 189 #[.val (.int p0), .val (.int p1), .val (.int p2), .val (.int v2), .val (.ref (A nj)), .val (.ref b4), .val (.ref b31), .val (.int (own_min nj)), .val (.int (own_max nj)), .val (.int (p1 &&& (7 : Int32))), .unset, .unset, .unset] [(.int ((own_min nj).toInt16.toInt32))])) _
        refine XS.istore X71.here hx rfl (hb hby at_189) rfl (l' := #[.val (.int p0), .val (.int p1), .val (.int p2), .val (.int v2), .val (.ref (A nj)), .val (.ref b4), .val (.ref b31), .val (.int (own_min nj)), .val (.int (own_max nj)), .val (.int (p1 &&& (7 : Int32))), .val (.int ((own_min nj).toInt16.toInt32)), .unset, .unset]) rfl ?_
        show Steps p.tables e below (T71.setTop (mkF m 191 #[.val (.int p0), .val (.int p1), .val (.int p2), .val (.int v2), .val (.ref (A nj)), .val (.ref b4), .val (.ref b31), .val (.int (own_min nj)), .val (.int (own_max nj)), .val (.int (p1 &&& (7 : Int32))), .val (.int ((own_min nj).toInt16.toInt32)), .unset, .unset] [])) _
        refine XS.iconst X71.here hx rfl (hb hby at_191) ?_
        show Steps p.tables e below (T71.setTop (mkF m 192 #[.val (.int p0), .val (.int p1), .val (.int p2), .val (.int v2), .val (.ref (A nj)), .val (.ref b4), .val (.ref b31), .val (.int (own_min nj)), .val (.int (own_max nj)), .val (.int (p1 &&& (7 : Int32))), .val (.int ((own_min nj).toInt16.toInt32)), .unset, .unset] [(.int (1 : Int32))])) _
        refine XS.istore X71.here hx rfl (hb hby at_192) rfl (l' := #[.val (.int p0), .val (.int p1), .val (.int p2), .val (.int v2), .val (.ref (A nj)), .val (.ref b4), .val (.ref b31), .val (.int (own_min nj)), .val (.int (own_max nj)), .val (.int (p1 &&& (7 : Int32))), .val (.int ((own_min nj).toInt16.toInt32)), .val (.int (1 : Int32)), .unset]) rfl ?_
        show Steps p.tables e below (T71.setTop (mkF m 194 #[.val (.int p0), .val (.int p1), .val (.int p2), .val (.int v2), .val (.ref (A nj)), .val (.ref b4), .val (.ref b31), .val (.int (own_min nj)), .val (.int (own_max nj)), .val (.int (p1 &&& (7 : Int32))), .val (.int ((own_min nj).toInt16.toInt32)), .val (.int (1 : Int32)), .unset] [])) _
        refine XS.goto X71.here hx rfl (pc0 := 194) (pc' := 262) rfl (hb hby at_194) (by decide) (by decide) ?_
        show Steps p.tables e below (T71.setTop (mkF m 262 #[.val (.int p0), .val (.int p1), .val (.int p2), .val (.int v2), .val (.ref (A nj)), .val (.ref b4), .val (.ref b31), .val (.int (own_min nj)), .val (.int (own_max nj)), .val (.int (p1 &&& (7 : Int32))), .val (.int ((own_min nj).toInt16.toInt32)), .val (.int (1 : Int32)), .unset] [])) _
        refine XS.aload X71.here hx rfl (hb hby at_262) rfl rfl ?_
        refine XS.iload X71.here hx rfl (hb hby at_264) rfl ?_
        refine st220.trans ?_
        show Steps p.tables e below (T220.setTop (mkF m 269 #[.val (.int p0), .val (.int p1), .val (.int p2), .val (.int v2), .val (.ref (A nj)), .val (.ref b4), .val (.ref b31), .val (.int (own_min nj)), .val (.int (own_max nj)), .val (.int (p1 &&& (7 : Int32))), .val (.int ((own_min nj).toInt16.toInt32)), .val (.int (1 : Int32)), .unset] [(.int (if ((own_min nj).toInt16.toInt32) < (own_min nj) then (0 : Int32) else (if (own_max nj) < ((own_min nj).toInt16.toInt32) then (0 : Int32) else (1 : Int32))))])) _
        refine XS.iload X220.here hx rfl (hb hby at_269) rfl ?_
        show Steps p.tables e below (T220.setTop (mkF m 271 #[.val (.int p0), .val (.int p1), .val (.int p2), .val (.int v2), .val (.ref (A nj)), .val (.ref b4), .val (.ref b31), .val (.int (own_min nj)), .val (.int (own_max nj)), .val (.int (p1 &&& (7 : Int32))), .val (.int ((own_min nj).toInt16.toInt32)), .val (.int (1 : Int32)), .unset] [(.int (1 : Int32)), (.int (if ((own_min nj).toInt16.toInt32) < (own_min nj) then (0 : Int32) else (if (own_max nj) < ((own_min nj).toInt16.toInt32) then (0 : Int32) else (1 : Int32))))])) _
        refine J271_235 _ rfl _ ?_
        show Steps p.tables e below (T220.setTop (mkF m 279 #[.val (.int p0), .val (.int p1), .val (.int p2), .val (.int v2), .val (.ref (A nj)), .val (.ref b4), .val (.ref b31), .val (.int (own_min nj)), .val (.int (own_max nj)), .val (.int (p1 &&& (7 : Int32))), .val (.int ((own_min nj).toInt16.toInt32)), .val (.int (1 : Int32)), .unset] [(.int (if (if ((own_min nj).toInt16.toInt32) < (own_min nj) then (0 : Int32) else (if (own_max nj) < ((own_min nj).toInt16.toInt32) then (0 : Int32) else (1 : Int32))) = (1 : Int32) then (1 : Int32) else (0 : Int32)))])) _
        exact retN X220 hx (t := .boolean) Bd.returns (by simp) (hb hby at_279) hr
      · show Q0 Z p0 p1 p2 A h0 n0 _ T220.heap _
        rw [e220]
        refine ⟨?_, N220⟩
        have hm : (if ((own_min nj).toInt16.toInt32) < (own_min nj) then (0 : Int32) else (if (own_max nj) < ((own_min nj).toInt16.toInt32) then (0 : Int32) else (1 : Int32))) = (1 : Int32) := own_m1 ⟨nj, ltj⟩
        rw [if_pos hm]
        rfl
    · have K : ∀ target, Steps p.tables e below (T71.setTop (mkF m 197 #[.val (.int p0), .val (.int p1), .val (.int p2), .val (.int v2), .val (.ref (A nj)), .val (.ref b4), .val (.ref b31), .val (.int (own_min nj)), .val (.int (own_max nj)), .val (.int (p1 &&& (7 : Int32))), .unset, .unset, .unset] [])) target → Steps p.tables e below (T71.setTop (mkF m 183 #[.val (.int p0), .val (.int p1), .val (.int p2), .val (.int v2), .val (.ref (A nj)), .val (.ref b4), .val (.ref b31), .val (.int (own_min nj)), .val (.int (own_max nj)), .val (.int (p1 &&& (7 : Int32))), .unset, .unset, .unset] [(.int (1 : Int32)), (.int (p1 &&& (7 : Int32)))])) target := by
        intro target kt
        refine XS.icmpYes X71.here hx rfl (pc0 := 183) (pc' := 197) rfl (hb hby at_183) rfl (feq hc183_163).2 (by decide) (by decide) ?_
        exact kt
      refine Done.of ?_ K
      have K236 : ∀ target, Steps p.tables e below (T71.setTop (mkF m 200 #[.val (.int p0), .val (.int p1), .val (.int p2), .val (.int v2), .val (.ref (A nj)), .val (.ref b4), .val (.ref b31), .val (.int (own_min nj)), .val (.int (own_max nj)), .val (.int (p1 &&& (7 : Int32))), .unset, .unset, .unset] [(.int (2 : Int32)), (.int (p1 &&& (7 : Int32)))])) target → Steps p.tables e below (T71.setTop (mkF m 197 #[.val (.int p0), .val (.int p1), .val (.int p2), .val (.int v2), .val (.ref (A nj)), .val (.ref b4), .val (.ref b31), .val (.int (own_min nj)), .val (.int (own_max nj)), .val (.int (p1 &&& (7 : Int32))), .unset, .unset, .unset] [])) target := by
        intro target kt
        show Steps p.tables e below (T71.setTop (mkF m 197 #[.val (.int p0), .val (.int p1), .val (.int p2), .val (.int v2), .val (.ref (A nj)), .val (.ref b4), .val (.ref b31), .val (.int (own_min nj)), .val (.int (own_max nj)), .val (.int (p1 &&& (7 : Int32))), .unset, .unset, .unset] [])) _
        refine XS.iload X71.here hx rfl (hb hby at_197) rfl ?_
        show Steps p.tables e below (T71.setTop (mkF m 199 #[.val (.int p0), .val (.int p1), .val (.int p2), .val (.int v2), .val (.ref (A nj)), .val (.ref b4), .val (.ref b31), .val (.int (own_min nj)), .val (.int (own_max nj)), .val (.int (p1 &&& (7 : Int32))), .unset, .unset, .unset] [(.int (p1 &&& (7 : Int32)))])) _
        refine XS.iconst X71.here hx rfl (hb hby at_199) ?_
        exact kt
      refine Done.of ?_ K236
      by_cases hc200_237 : (p1 &&& (7 : Int32)) = (2 : Int32)
      · have K : ∀ target, Steps p.tables e below (T71.setTop (mkF m 203 #[.val (.int p0), .val (.int p1), .val (.int p2), .val (.int v2), .val (.ref (A nj)), .val (.ref b4), .val (.ref b31), .val (.int (own_min nj)), .val (.int (own_max nj)), .val (.int (p1 &&& (7 : Int32))), .unset, .unset, .unset] [])) target → Steps p.tables e below (T71.setTop (mkF m 200 #[.val (.int p0), .val (.int p1), .val (.int p2), .val (.int v2), .val (.ref (A nj)), .val (.ref b4), .val (.ref b31), .val (.int (own_min nj)), .val (.int (own_max nj)), .val (.int (p1 &&& (7 : Int32))), .unset, .unset, .unset] [(.int (2 : Int32)), (.int (p1 &&& (7 : Int32)))])) target := by
          intro target kt
          refine XS.icmpNo X71.here hx rfl (hb hby at_200) rfl (teq hc200_237).2 ?_
          exact kt
        refine Done.of ?_ K
        have cy238 := ((Fmin nj ltj).ext E4)
        have cy239 := (cy238.other W6 (Or.inl ne_4_1))
        have cy240 := (cy239.other W8 (Or.inl ne_4_1))
        have cy241 := (cy240.other W10 (Or.inl ne_4_1))
        have cy242 := (cy241.other W12 (Or.inl ne_4_1))
        have cy243 := (cy242.other W14 (Or.inl ne_4_1))
        have cy244 := (cy243.other W16 (Or.inl ne_4_1))
        have cy245 := (cy244.other W18 (Or.inl ne_4_1))
        have cy246 := (cy245.other W20 (Or.inl ne_4_1))
        have cy247 := (cy246.other W22 (Or.inl ne_4_1))
        have cy248 := (cy247.other W24 (Or.inl ne_4_1))
        have cy249 := (cy248.other W26 (Or.inl ne_4_1))
        have cy250 := (cy249.other W28 (Or.inl ne_4_1))
        have cy251 := (cy250.other W30 (Or.inl ne_4_1))
        have cy252 := (cy251.ext E31)
        have cy253 := (cy252.other W47 (Or.inl ne_31_1))
        have cy254 := (cy253.other W49 (Or.inl ne_31_1))
        have cy255 := (cy254.other W51 (Or.inl ne_31_1))
        have cy256 := (cy255.other W53 (Or.inl ne_31_1))
        have cy257 := (cy256.other W55 (Or.inl ne_31_1))
        have cy258 := (cy257.other W57 (Or.inl ne_31_1))
        have cy259 := (cy258.other W59 (Or.inl ne_31_1))
        have cy260 := (cy259.other W61 (Or.inl ne_31_1))
        have cy261 := (cy260.other W63 (Or.inl ne_31_1))
        have cy262 := (cy261.other W65 (Or.inl ne_31_1))
        have cy263 := (cy262.other W67 (Or.inl ne_31_1))
        have cy264 := (cy263.other W69 (Or.inl ne_31_1))
        have cy265 := (cy264.other W71 (Or.inl ne_31_1))
        have cy266 := ((Fmax nj ltj).ext E4)
        have cy267 := (cy266.other W6 (Or.inl ne_4_1))
        have cy268 := (cy267.other W8 (Or.inl ne_4_1))
        have cy269 := (cy268.other W10 (Or.inl ne_4_1))
        have cy270 := (cy269.other W12 (Or.inl ne_4_1))
        have cy271 := (cy270.other W14 (Or.inl ne_4_1))
        have cy272 := (cy271.other W16 (Or.inl ne_4_1))
        have cy273 := (cy272.other W18 (Or.inl ne_4_1))
        have cy274 := (cy273.other W20 (Or.inl ne_4_1))
        have cy275 := (cy274.other W22 (Or.inl ne_4_1))
        have cy276 := (cy275.other W24 (Or.inl ne_4_1))
        have cy277 := (cy276.other W26 (Or.inl ne_4_1))
        have cy278 := (cy277.other W28 (Or.inl ne_4_1))
        have cy279 := (cy278.other W30 (Or.inl ne_4_1))
        have cy280 := (cy279.ext E31)
        have cy281 := (cy280.other W47 (Or.inl ne_31_1))
        have cy282 := (cy281.other W49 (Or.inl ne_31_1))
        have cy283 := (cy282.other W51 (Or.inl ne_31_1))
        have cy284 := (cy283.other W53 (Or.inl ne_31_1))
        have cy285 := (cy284.other W55 (Or.inl ne_31_1))
        have cy286 := (cy285.other W57 (Or.inl ne_31_1))
        have cy287 := (cy286.other W59 (Or.inl ne_31_1))
        have cy288 := (cy287.other W61 (Or.inl ne_31_1))
        have cy289 := (cy288.other W63 (Or.inl ne_31_1))
        have cy290 := (cy289.other W65 (Or.inl ne_31_1))
        have cy291 := (cy290.other W67 (Or.inl ne_31_1))
        have cy292 := (cy291.other W69 (Or.inl ne_31_1))
        have cy293 := (cy292.other W71 (Or.inl ne_31_1))
        have cy295 := (cy45.ext E31)
        have cy296 := (cy295.wr W47)
        have cy297 := (cy296.wr W49)
        have cy298 := (cy297.wr W51)
        have cy299 := (cy298.wr W53)
        have cy300 := (cy299.wr W55)
        have cy301 := (cy300.wr W57)
        have cy302 := (cy301.wr W59)
        have cy303 := (cy302.wr W61)
        have cy304 := (cy303.wr W63)
        have cy305 := (cy304.wr W65)
        have cy306 := (cy305.wr W67)
        have cy307 := (cy306.wr W69)
        have cy308 := (cy307.wr W71)
        obtain ⟨cq294, kq294, q294a, q294b, q294c⟩ := isOf hZ e71 cy308
        obtain ⟨_, _, ⟨T294, L294, k294, n294⟩, -, X294, ⟨Lc294, hQ294, l294, y294, z294⟩, st294⟩ := X71.virtualBack hx (y := (⟨"com/example/brokerwire/brokerwire/ApiKey", "implementsVersion", "(S)Z"⟩ : MethodName)) (z := (⟨"com/example/brokerwire/brokerwire/ApiKey", "implementsVersion", "(S)Z"⟩ : MethodName)) hown (mvT hZ (hw _ (List.mem_of_getElem? (i := 9) rfl))) (mvT hZ (hw _ (List.mem_of_getElem? (i := 10) rfl))) (notFace_of_selects (args := #[]) (mvT hZ (hw _ (List.mem_of_getElem? (i := 12) rfl)))) (mvT hZ (hw _ (List.mem_of_getElem? (i := 12) rfl))) (mvT hZ (hw _ (List.mem_of_getElem? (i := 11) rfl))) (by decide) (backOf (W := 0) (rm2 l Z a0 hw [] (A nj) ((own_max nj).toInt16.toInt32) (own_min nj) (own_max nj) h71 n0 Z71 cy265 cy293) hZ (hw _ (List.mem_of_getElem? (i := 13) rfl)) (hw _ (List.mem_of_getElem? (i := 6) rfl)) (by decide) (by decide)) q294a q294c (g := (mkF m 266 #[.val (.int p0), .val (.int p1), .val (.int p2), .val (.int v2), .val (.ref (A nj)), .val (.ref b4), .val (.ref b31), .val (.int (own_min nj)), .val (.int (own_max nj)), .val (.int (p1 &&& (7 : Int32))), .val (.int ((own_max nj).toInt16.toInt32)), .val (.int (1 : Int32)), .unset] [(.int ((own_max nj).toInt16.toInt32)), (.ref (A nj))])) rfl (by rw [hml]; rfl) (Steps.refl _) (argsL := [(.int ((own_max nj).toInt16.toInt32))]) (rest := []) (lenOf pd_1 rfl) rfl (by show 2 * 0 + _ ≤ _; exact Nat.le_of_eq rfl) (hb hby at_266) (fun _ _ => ⟨rfl, e71, (by decide : 2 + 0 ≤ _), (by decide : 26 + 0 ≤ _)⟩)
        dsimp only [Pt.U, Pt.locs, Pt.cells, Pt.slots] at X294 l294 y294 z294 st294 hQ294
        rw [l294, y294, z294] at X294
        obtain ⟨rfl, N294q, e294⟩ := hQ294
        have N294 := Fr.app N71 N294q
        have J271_309 : ∀ wj : Int32, wj = (if (if ((own_max nj).toInt16.toInt32) < (own_min nj) then (0 : Int32) else (if (own_max nj) < ((own_max nj).toInt16.toInt32) then (0 : Int32) else (1 : Int32))) = (1 : Int32) then (1 : Int32) else (0 : Int32)) → ∀ target, Steps p.tables e below (T294.setTop (mkF m 279 #[.val (.int p0), .val (.int p1), .val (.int p2), .val (.int v2), .val (.ref (A nj)), .val (.ref b4), .val (.ref b31), .val (.int (own_min nj)), .val (.int (own_max nj)), .val (.int (p1 &&& (7 : Int32))), .val (.int ((own_max nj).toInt16.toInt32)), .val (.int (1 : Int32)), .unset] [(.int wj)])) target → Steps p.tables e below (T294.setTop (mkF m 271 #[.val (.int p0), .val (.int p1), .val (.int p2), .val (.int v2), .val (.ref (A nj)), .val (.ref b4), .val (.ref b31), .val (.int (own_min nj)), .val (.int (own_max nj)), .val (.int (p1 &&& (7 : Int32))), .val (.int ((own_max nj).toInt16.toInt32)), .val (.int (1 : Int32)), .unset] [(.int (1 : Int32)), (.int (if ((own_max nj).toInt16.toInt32) < (own_min nj) then (0 : Int32) else (if (own_max nj) < ((own_max nj).toInt16.toInt32) then (0 : Int32) else (1 : Int32))))])) target := by
          intro wj hw0 target kt
          by_cases hj271 : (if ((own_max nj).toInt16.toInt32) < (own_min nj) then (0 : Int32) else (if (own_max nj) < ((own_max nj).toInt16.toInt32) then (0 : Int32) else (1 : Int32))) = (1 : Int32)
          · rw [if_pos hj271] at hw0
            show Steps p.tables e below (T294.setTop (mkF m 271 #[.val (.int p0), .val (.int p1), .val (.int p2), .val (.int v2), .val (.ref (A nj)), .val (.ref b4), .val (.ref b31), .val (.int (own_min nj)), .val (.int (own_max nj)), .val (.int (p1 &&& (7 : Int32))), .val (.int ((own_max nj).toInt16.toInt32)), .val (.int (1 : Int32)), .unset] [(.int (1 : Int32)), (.int (if ((own_max nj).toInt16.toInt32) < (own_min nj) then (0 : Int32) else (if (own_max nj) < ((own_max nj).toInt16.toInt32) then (0 : Int32) else (1 : Int32))))])) _
            refine XS.icmpNo X294.here hx rfl (hb hby at_271) rfl (teq hj271).2 ?_
            show Steps p.tables e below (T294.setTop (mkF m 274 #[.val (.int p0), .val (.int p1), .val (.int p2), .val (.int v2), .val (.ref (A nj)), .val (.ref b4), .val (.ref b31), .val (.int (own_min nj)), .val (.int (own_max nj)), .val (.int (p1 &&& (7 : Int32))), .val (.int ((own_max nj).toInt16.toInt32)), .val (.int (1 : Int32)), .unset] [])) _
            refine XS.iconst X294.here hx rfl (hb hby at_274) ?_
            show Steps p.tables e below (T294.setTop (mkF m 275 #[.val (.int p0), .val (.int p1), .val (.int p2), .val (.int v2), .val (.ref (A nj)), .val (.ref b4), .val (.ref b31), .val (.int (own_min nj)), .val (.int (own_max nj)), .val (.int (p1 &&& (7 : Int32))), .val (.int ((own_max nj).toInt16.toInt32)), .val (.int (1 : Int32)), .unset] [(.int (1 : Int32))])) _
            refine XS.goto X294.here hx rfl (pc0 := 275) (pc' := 279) rfl (hb hby at_275) (by decide) (by decide) ?_
            rw [hw0] at kt
            exact kt
          · rw [if_neg hj271] at hw0
            show Steps p.tables e below (T294.setTop (mkF m 271 #[.val (.int p0), .val (.int p1), .val (.int p2), .val (.int v2), .val (.ref (A nj)), .val (.ref b4), .val (.ref b31), .val (.int (own_min nj)), .val (.int (own_max nj)), .val (.int (p1 &&& (7 : Int32))), .val (.int ((own_max nj).toInt16.toInt32)), .val (.int (1 : Int32)), .unset] [(.int (1 : Int32)), (.int (if ((own_max nj).toInt16.toInt32) < (own_min nj) then (0 : Int32) else (if (own_max nj) < ((own_max nj).toInt16.toInt32) then (0 : Int32) else (1 : Int32))))])) _
            refine XS.icmpYes X294.here hx rfl (pc0 := 271) (pc' := 278) rfl (hb hby at_271) rfl (feq hj271).2 (by decide) (by decide) ?_
            show Steps p.tables e below (T294.setTop (mkF m 278 #[.val (.int p0), .val (.int p1), .val (.int p2), .val (.int v2), .val (.ref (A nj)), .val (.ref b4), .val (.ref b31), .val (.int (own_min nj)), .val (.int (own_max nj)), .val (.int (p1 &&& (7 : Int32))), .val (.int ((own_max nj).toInt16.toInt32)), .val (.int (1 : Int32)), .unset] [])) _
            refine XS.iconst X294.here hx rfl (hb hby at_278) ?_
            rw [hw0] at kt
            exact kt
        obtain ⟨fs, hr, hrun, hended, hW, hsame⟩ := X294.leave (v := some (.int (nar .boolean (if (if ((own_max nj).toInt16.toInt32) < (own_min nj) then (0 : Int32) else (if (own_max nj) < ((own_max nj).toInt16.toInt32) then (0 : Int32) else (1 : Int32))) = (1 : Int32) then (1 : Int32) else (0 : Int32))))) (fun h => by rw [Bd.returns] at h; cases h)
        refine ⟨_, _, ?_, hrun, hended, _, _, rfl, ?_, ⟨_, rfl⟩, hW, hsame.mono (by decide) (by decide)⟩
        · show Steps p.tables e below (T71.setTop (mkF m 203 #[.val (.int p0), .val (.int p1), .val (.int p2), .val (.int v2), .val (.ref (A nj)), .val (.ref b4), .val (.ref b31), .val (.int (own_min nj)), .val (.int (own_max nj)), .val (.int (p1 &&& (7 : Int32))), .unset, .unset, .unset] [])) _
          refine XS.iload X71.here hx rfl (hb hby at_203) rfl ?_
          show Steps p.tables e below (T71.setTop (mkF m 205 #[.val (.int p0), .val (.int p1), .val (.int p2), .val (.int v2), .val (.ref (A nj)), .val (.ref b4), .val (.ref b31), .val (.int (own_min nj)), .val (.int (own_max nj)), .val (.int (p1 &&& (7 : Int32))), .unset, .unset, .unset] [(.int (own_max nj))])) _
          refine XS.i2s X71.here hx rfl (hb hby at_205) rfl ?_
          show Steps p.tables e below (T71.setTop (mkF m 206 #[.val (.int p0), .val (.int p1), .val (.int p2), .val (.int v2), .val (.ref (A nj)), .val (.ref b4), .val (.ref b31), .val (.int (own_min nj)), .val (.int (own_max nj)), .val (.int (p1 &&& (7 : Int32))), .unset, .unset, .unset] [(.int ((own_max nj).toInt16.toInt32))])) _
          refine XS.istore X71.here hx rfl (hb hby at_206) rfl (l' := #[.val (.int p0), .val (.int p1), .val (.int p2), .val (.int v2), .val (.ref (A nj)), .val (.ref b4), .val (.ref b31), .val (.int (own_min nj)), .val (.int (own_max nj)), .val (.int (p1 &&& (7 : Int32))), .val (.int ((own_max nj).toInt16.toInt32)), .unset, .unset]) rfl ?_
          show Steps p.tables e below (T71.setTop (mkF m 208 #[.val (.int p0), .val (.int p1), .val (.int p2), .val (.int v2), .val (.ref (A nj)), .val (.ref b4), .val (.ref b31), .val (.int (own_min nj)), .val (.int (own_max nj)), .val (.int (p1 &&& (7 : Int32))), .val (.int ((own_max nj).toInt16.toInt32)), .unset, .unset] [])) _
          refine XS.iconst X71.here hx rfl (hb hby at_208) ?_
          show Steps p.tables e below (T71.setTop (mkF m 209 #[.val (.int p0), .val (.int p1), .val (.int p2), .val (.int v2), .val (.ref (A nj)), .val (.ref b4), .val (.ref b31), .val (.int (own_min nj)), .val (.int (own_max nj)), .val (.int (p1 &&& (7 : Int32))), .val (.int ((own_max nj).toInt16.toInt32)), .unset, .unset] [(.int (1 : Int32))])) _
          refine XS.istore X71.here hx rfl (hb hby at_209) rfl (l' := #[.val (.int p0), .val (.int p1), .val (.int p2), .val (.int v2), .val (.ref (A nj)), .val (.ref b4), .val (.ref b31), .val (.int (own_min nj)), .val (.int (own_max nj)), .val (.int (p1 &&& (7 : Int32))), .val (.int ((own_max nj).toInt16.toInt32)), .val (.int (1 : Int32)), .unset]) rfl ?_
          show Steps p.tables e below (T71.setTop (mkF m 211 #[.val (.int p0), .val (.int p1), .val (.int p2), .val (.int v2), .val (.ref (A nj)), .val (.ref b4), .val (.ref b31), .val (.int (own_min nj)), .val (.int (own_max nj)), .val (.int (p1 &&& (7 : Int32))), .val (.int ((own_max nj).toInt16.toInt32)), .val (.int (1 : Int32)), .unset] [])) _
          refine XS.goto X71.here hx rfl (pc0 := 211) (pc' := 262) rfl (hb hby at_211) (by decide) (by decide) ?_
          show Steps p.tables e below (T71.setTop (mkF m 262 #[.val (.int p0), .val (.int p1), .val (.int p2), .val (.int v2), .val (.ref (A nj)), .val (.ref b4), .val (.ref b31), .val (.int (own_min nj)), .val (.int (own_max nj)), .val (.int (p1 &&& (7 : Int32))), .val (.int ((own_max nj).toInt16.toInt32)), .val (.int (1 : Int32)), .unset] [])) _
          refine XS.aload X71.here hx rfl (hb hby at_262) rfl rfl ?_
          refine XS.iload X71.here hx rfl (hb hby at_264) rfl ?_
          refine st294.trans ?_
          refine XS.iload X294.here hx rfl (hb hby at_269) rfl ?_
          show Steps p.tables e below (T294.setTop (mkF m 271 #[.val (.int p0), .val (.int p1), .val (.int p2), .val (.int v2), .val (.ref (A nj)), .val (.ref b4), .val (.ref b31), .val (.int (own_min nj)), .val (.int (own_max nj)), .val (.int (p1 &&& (7 : Int32))), .val (.int ((own_max nj).toInt16.toInt32)), .val (.int (1 : Int32)), .unset] [(.int (1 : Int32)), (.int (if ((own_max nj).toInt16.toInt32) < (own_min nj) then (0 : Int32) else (if (own_max nj) < ((own_max nj).toInt16.toInt32) then (0 : Int32) else (1 : Int32))))])) _
          refine J271_309 _ rfl _ ?_
          show Steps p.tables e below (T294.setTop (mkF m 279 #[.val (.int p0), .val (.int p1), .val (.int p2), .val (.int v2), .val (.ref (A nj)), .val (.ref b4), .val (.ref b31), .val (.int (own_min nj)), .val (.int (own_max nj)), .val (.int (p1 &&& (7 : Int32))), .val (.int ((own_max nj).toInt16.toInt32)), .val (.int (1 : Int32)), .unset] [(.int (if (if ((own_max nj).toInt16.toInt32) < (own_min nj) then (0 : Int32) else (if (own_max nj) < ((own_max nj).toInt16.toInt32) then (0 : Int32) else (1 : Int32))) = (1 : Int32) then (1 : Int32) else (0 : Int32)))])) _
          exact retN X294 hx (t := .boolean) Bd.returns (by simp) (hb hby at_279) hr
        · show Q0 Z p0 p1 p2 A h0 n0 _ T294.heap _
          rw [e294]
          refine ⟨?_, N294⟩
          have hm : (if ((own_max nj).toInt16.toInt32) < (own_min nj) then (0 : Int32) else (if (own_max nj) < ((own_max nj).toInt16.toInt32) then (0 : Int32) else (1 : Int32))) = (1 : Int32) := own_m2 ⟨nj, ltj⟩
          rw [if_pos hm]
          rfl
      · have K : ∀ target, Steps p.tables e below (T71.setTop (mkF m 214 #[.val (.int p0), .val (.int p1), .val (.int p2), .val (.int v2), .val (.ref (A nj)), .val (.ref b4), .val (.ref b31), .val (.int (own_min nj)), .val (.int (own_max nj)), .val (.int (p1 &&& (7 : Int32))), .unset, .unset, .unset] [])) target → Steps p.tables e below (T71.setTop (mkF m 200 #[.val (.int p0), .val (.int p1), .val (.int p2), .val (.int v2), .val (.ref (A nj)), .val (.ref b4), .val (.ref b31), .val (.int (own_min nj)), .val (.int (own_max nj)), .val (.int (p1 &&& (7 : Int32))), .unset, .unset, .unset] [(.int (2 : Int32)), (.int (p1 &&& (7 : Int32)))])) target := by
          intro target kt
          refine XS.icmpYes X71.here hx rfl (pc0 := 200) (pc' := 214) rfl (hb hby at_200) rfl (feq hc200_237).2 (by decide) (by decide) ?_
          exact kt
        refine Done.of ?_ K
        have K310 : ∀ target, Steps p.tables e below (T71.setTop (mkF m 217 #[.val (.int p0), .val (.int p1), .val (.int p2), .val (.int v2), .val (.ref (A nj)), .val (.ref b4), .val (.ref b31), .val (.int (own_min nj)), .val (.int (own_max nj)), .val (.int (p1 &&& (7 : Int32))), .unset, .unset, .unset] [(.int (3 : Int32)), (.int (p1 &&& (7 : Int32)))])) target → Steps p.tables e below (T71.setTop (mkF m 214 #[.val (.int p0), .val (.int p1), .val (.int p2), .val (.int v2), .val (.ref (A nj)), .val (.ref b4), .val (.ref b31), .val (.int (own_min nj)), .val (.int (own_max nj)), .val (.int (p1 &&& (7 : Int32))), .unset, .unset, .unset] [])) target := by
          intro target kt
          show Steps p.tables e below (T71.setTop (mkF m 214 #[.val (.int p0), .val (.int p1), .val (.int p2), .val (.int v2), .val (.ref (A nj)), .val (.ref b4), .val (.ref b31), .val (.int (own_min nj)), .val (.int (own_max nj)), .val (.int (p1 &&& (7 : Int32))), .unset, .unset, .unset] [])) _
          refine XS.iload X71.here hx rfl (hb hby at_214) rfl ?_
          show Steps p.tables e below (T71.setTop (mkF m 216 #[.val (.int p0), .val (.int p1), .val (.int p2), .val (.int v2), .val (.ref (A nj)), .val (.ref b4), .val (.ref b31), .val (.int (own_min nj)), .val (.int (own_max nj)), .val (.int (p1 &&& (7 : Int32))), .unset, .unset, .unset] [(.int (p1 &&& (7 : Int32)))])) _
          refine XS.iconst X71.here hx rfl (hb hby at_216) ?_
          exact kt
        refine Done.of ?_ K310
        by_cases hc217_311 : (p1 &&& (7 : Int32)) = (3 : Int32)
        · have K : ∀ target, Steps p.tables e below (T71.setTop (mkF m 220 #[.val (.int p0), .val (.int p1), .val (.int p2), .val (.int v2), .val (.ref (A nj)), .val (.ref b4), .val (.ref b31), .val (.int (own_min nj)), .val (.int (own_max nj)), .val (.int (p1 &&& (7 : Int32))), .unset, .unset, .unset] [])) target → Steps p.tables e below (T71.setTop (mkF m 217 #[.val (.int p0), .val (.int p1), .val (.int p2), .val (.int v2), .val (.ref (A nj)), .val (.ref b4), .val (.ref b31), .val (.int (own_min nj)), .val (.int (own_max nj)), .val (.int (p1 &&& (7 : Int32))), .unset, .unset, .unset] [(.int (3 : Int32)), (.int (p1 &&& (7 : Int32)))])) target := by
            intro target kt
            refine XS.icmpNo X71.here hx rfl (hb hby at_217) rfl (teq hc217_311).2 ?_
            exact kt
          refine Done.of ?_ K
          have cy312 := ((Fmin nj ltj).ext E4)
          have cy313 := (cy312.other W6 (Or.inl ne_4_1))
          have cy314 := (cy313.other W8 (Or.inl ne_4_1))
          have cy315 := (cy314.other W10 (Or.inl ne_4_1))
          have cy316 := (cy315.other W12 (Or.inl ne_4_1))
          have cy317 := (cy316.other W14 (Or.inl ne_4_1))
          have cy318 := (cy317.other W16 (Or.inl ne_4_1))
          have cy319 := (cy318.other W18 (Or.inl ne_4_1))
          have cy320 := (cy319.other W20 (Or.inl ne_4_1))
          have cy321 := (cy320.other W22 (Or.inl ne_4_1))
          have cy322 := (cy321.other W24 (Or.inl ne_4_1))
          have cy323 := (cy322.other W26 (Or.inl ne_4_1))
          have cy324 := (cy323.other W28 (Or.inl ne_4_1))
          have cy325 := (cy324.other W30 (Or.inl ne_4_1))
          have cy326 := (cy325.ext E31)
          have cy327 := (cy326.other W47 (Or.inl ne_31_1))
          have cy328 := (cy327.other W49 (Or.inl ne_31_1))
          have cy329 := (cy328.other W51 (Or.inl ne_31_1))
          have cy330 := (cy329.other W53 (Or.inl ne_31_1))
          have cy331 := (cy330.other W55 (Or.inl ne_31_1))
          have cy332 := (cy331.other W57 (Or.inl ne_31_1))
          have cy333 := (cy332.other W59 (Or.inl ne_31_1))
          have cy334 := (cy333.other W61 (Or.inl ne_31_1))
          have cy335 := (cy334.other W63 (Or.inl ne_31_1))
          have cy336 := (cy335.other W65 (Or.inl ne_31_1))
          have cy337 := (cy336.other W67 (Or.inl ne_31_1))
          have cy338 := (cy337.other W69 (Or.inl ne_31_1))
          have cy339 := (cy338.other W71 (Or.inl ne_31_1))
          have cy340 := ((Fmax nj ltj).ext E4)
          have cy341 := (cy340.other W6 (Or.inl ne_4_1))
          have cy342 := (cy341.other W8 (Or.inl ne_4_1))
          have cy343 := (cy342.other W10 (Or.inl ne_4_1))
          have cy344 := (cy343.other W12 (Or.inl ne_4_1))
          have cy345 := (cy344.other W14 (Or.inl ne_4_1))
          have cy346 := (cy345.other W16 (Or.inl ne_4_1))
          have cy347 := (cy346.other W18 (Or.inl ne_4_1))
          have cy348 := (cy347.other W20 (Or.inl ne_4_1))
          have cy349 := (cy348.other W22 (Or.inl ne_4_1))
          have cy350 := (cy349.other W24 (Or.inl ne_4_1))
          have cy351 := (cy350.other W26 (Or.inl ne_4_1))
          have cy352 := (cy351.other W28 (Or.inl ne_4_1))
          have cy353 := (cy352.other W30 (Or.inl ne_4_1))
          have cy354 := (cy353.ext E31)
          have cy355 := (cy354.other W47 (Or.inl ne_31_1))
          have cy356 := (cy355.other W49 (Or.inl ne_31_1))
          have cy357 := (cy356.other W51 (Or.inl ne_31_1))
          have cy358 := (cy357.other W53 (Or.inl ne_31_1))
          have cy359 := (cy358.other W55 (Or.inl ne_31_1))
          have cy360 := (cy359.other W57 (Or.inl ne_31_1))
          have cy361 := (cy360.other W59 (Or.inl ne_31_1))
          have cy362 := (cy361.other W61 (Or.inl ne_31_1))
          have cy363 := (cy362.other W63 (Or.inl ne_31_1))
          have cy364 := (cy363.other W65 (Or.inl ne_31_1))
          have cy365 := (cy364.other W67 (Or.inl ne_31_1))
          have cy366 := (cy365.other W69 (Or.inl ne_31_1))
          have cy367 := (cy366.other W71 (Or.inl ne_31_1))
          have cy369 := (cy45.ext E31)
          have cy370 := (cy369.wr W47)
          have cy371 := (cy370.wr W49)
          have cy372 := (cy371.wr W51)
          have cy373 := (cy372.wr W53)
          have cy374 := (cy373.wr W55)
          have cy375 := (cy374.wr W57)
          have cy376 := (cy375.wr W59)
          have cy377 := (cy376.wr W61)
          have cy378 := (cy377.wr W63)
          have cy379 := (cy378.wr W65)
          have cy380 := (cy379.wr W67)
          have cy381 := (cy380.wr W69)
          have cy382 := (cy381.wr W71)
          obtain ⟨cq368, kq368, q368a, q368b, q368c⟩ := isOf hZ e71 cy382
          obtain ⟨_, _, ⟨T368, L368, k368, n368⟩, -, X368, ⟨Lc368, hQ368, l368, y368, z368⟩, st368⟩ := X71.virtualBack hx (y := (⟨"com/example/brokerwire/brokerwire/ApiKey", "implementsVersion", "(S)Z"⟩ : MethodName)) (z := (⟨"com/example/brokerwire/brokerwire/ApiKey", "implementsVersion", "(S)Z"⟩ : MethodName)) hown (mvT hZ (hw _ (List.mem_of_getElem? (i := 9) rfl))) (mvT hZ (hw _ (List.mem_of_getElem? (i := 10) rfl))) (notFace_of_selects (args := #[]) (mvT hZ (hw _ (List.mem_of_getElem? (i := 12) rfl)))) (mvT hZ (hw _ (List.mem_of_getElem? (i := 12) rfl))) (mvT hZ (hw _ (List.mem_of_getElem? (i := 11) rfl))) (by decide) (backOf (W := 0) (rm2 l Z a0 hw [] (A nj) (((own_max nj) + (1 : Int32)).toInt16.toInt32) (own_min nj) (own_max nj) h71 n0 Z71 cy339 cy367) hZ (hw _ (List.mem_of_getElem? (i := 13) rfl)) (hw _ (List.mem_of_getElem? (i := 6) rfl)) (by decide) (by decide)) q368a q368c (g := (mkF m 266 #[.val (.int p0), .val (.int p1), .val (.int p2), .val (.int v2), .val (.ref (A nj)), .val (.ref b4), .val (.ref b31), .val (.int (own_min nj)), .val (.int (own_max nj)), .val (.int (p1 &&& (7 : Int32))), .val (.int (((own_max nj) + (1 : Int32)).toInt16.toInt32)), .val (.int (0 : Int32)), .unset] [(.int (((own_max nj) + (1 : Int32)).toInt16.toInt32)), (.ref (A nj))])) rfl (by rw [hml]; rfl) (Steps.refl _) (argsL := [(.int (((own_max nj) + (1 : Int32)).toInt16.toInt32))]) (rest := []) (lenOf pd_1 rfl) rfl (by show 2 * 0 + _ ≤ _; exact Nat.le_of_eq rfl) (hb hby at_266) (fun _ _ => ⟨rfl, e71, (by decide : 2 + 0 ≤ _), (by decide : 26 + 0 ≤ _)⟩)
          dsimp only [Pt.U, Pt.locs, Pt.cells, Pt.slots] at X368 l368 y368 z368 st368 hQ368
          rw [l368, y368, z368] at X368
          obtain ⟨rfl, N368q, e368⟩ := hQ368
          have N368 := Fr.app N71 N368q
          have J271_383 : ∀ wj : Int32, wj = (if (if (((own_max nj) + (1 : Int32)).toInt16.toInt32) < (own_min nj) then (0 : Int32) else (if (own_max nj) < (((own_max nj) + (1 : Int32)).toInt16.toInt32) then (0 : Int32) else (1 : Int32))) = (0 : Int32) then (1 : Int32) else (0 : Int32)) → ∀ target, Steps p.tables e below (T368.setTop (mkF m 279 #[.val (.int p0), .val (.int p1), .val (.int p2), .val (.int v2), .val (.ref (A nj)), .val (.ref b4), .val (.ref b31), .val (.int (own_min nj)), .val (.int (own_max nj)), .val (.int (p1 &&& (7 : Int32))), .val (.int (((own_max nj) + (1 : Int32)).toInt16.toInt32)), .val (.int (0 : Int32)), .unset] [(.int wj)])) target → Steps p.tables e below (T368.setTop (mkF m 271 #[.val (.int p0), .val (.int p1), .val (.int p2), .val (.int v2), .val (.ref (A nj)), .val (.ref b4), .val (.ref b31), .val (.int (own_min nj)), .val (.int (own_max nj)), .val (.int (p1 &&& (7 : Int32))), .val (.int (((own_max nj) + (1 : Int32)).toInt16.toInt32)), .val (.int (0 : Int32)), .unset] [(.int (0 : Int32)), (.int (if (((own_max nj) + (1 : Int32)).toInt16.toInt32) < (own_min nj) then (0 : Int32) else (if (own_max nj) < (((own_max nj) + (1 : Int32)).toInt16.toInt32) then (0 : Int32) else (1 : Int32))))])) target := by
            intro wj hw0 target kt
            by_cases hj271 : (if (((own_max nj) + (1 : Int32)).toInt16.toInt32) < (own_min nj) then (0 : Int32) else (if (own_max nj) < (((own_max nj) + (1 : Int32)).toInt16.toInt32) then (0 : Int32) else (1 : Int32))) = (0 : Int32)
            · rw [if_pos hj271] at hw0
              show Steps p.tables e below (T368.setTop (mkF m 271 #[.val (.int p0), .val (.int p1), .val (.int p2), .val (.int v2), .val (.ref (A nj)), .val (.ref b4), .val (.ref b31), .val (.int (own_min nj)), .val (.int (own_max nj)), .val (.int (p1 &&& (7 : Int32))), .val (.int (((own_max nj) + (1 : Int32)).toInt16.toInt32)), .val (.int (0 : Int32)), .unset] [(.int (0 : Int32)), (.int (if (((own_max nj) + (1 : Int32)).toInt16.toInt32) < (own_min nj) then (0 : Int32) else (if (own_max nj) < (((own_max nj) + (1 : Int32)).toInt16.toInt32) then (0 : Int32) else (1 : Int32))))])) _
              refine XS.icmpNo X368.here hx rfl (hb hby at_271) rfl (teq hj271).2 ?_
              refine XS.iconst X368.here hx rfl (hb hby at_274) ?_
              show Steps p.tables e below (T368.setTop (mkF m 275 #[.val (.int p0), .val (.int p1), .val (.int p2), .val (.int v2), .val (.ref (A nj)), .val (.ref b4), .val (.ref b31), .val (.int (own_min nj)), .val (.int (own_max nj)), .val (.int (p1 &&& (7 : Int32))), .val (.int (((own_max nj) + (1 : Int32)).toInt16.toInt32)), .val (.int (0 : Int32)), .unset] [(.int (1 : Int32))])) _
              refine XS.goto X368.here hx rfl (pc0 := 275) (pc' := 279) rfl (hb hby at_275) (by decide) (by decide) ?_
              rw [hw0] at kt
              exact kt
            · rw [if_neg hj271] at hw0
              show Steps p.tables e below (T368.setTop (mkF m 271 #[.val (.int p0), .val (.int p1), .val (.int p2), .val (.int v2), .val (.ref (A nj)), .val (.ref b4), .val (.ref b31), .val (.int (own_min nj)), .val (.int (own_max nj)), .val (.int (p1 &&& (7 : Int32))), .val (.int (((own_max nj) + (1 : Int32)).toInt16.toInt32)), .val (.int (0 : Int32)), .unset] [(.int (0 : Int32)), (.int (if (((own_max nj) + (1 : Int32)).toInt16.toInt32) < (own_min nj) then (0 : Int32) else (if (own_max nj) < (((own_max nj) + (1 : Int32)).toInt16.toInt32) then (0 : Int32) else (1 : Int32))))])) _
              refine XS.icmpYes X368.here hx rfl (pc0 := 271) (pc' := 278) rfl (hb hby at_271) rfl (feq hj271).2 (by decide) (by decide) ?_
              refine XS.iconst X368.here hx rfl (hb hby at_278) ?_
              rw [hw0] at kt
              exact kt
          obtain ⟨fs, hr, hrun, hended, hW, hsame⟩ := X368.leave (v := some (.int (nar .boolean (if (if (((own_max nj) + (1 : Int32)).toInt16.toInt32) < (own_min nj) then (0 : Int32) else (if (own_max nj) < (((own_max nj) + (1 : Int32)).toInt16.toInt32) then (0 : Int32) else (1 : Int32))) = (0 : Int32) then (1 : Int32) else (0 : Int32))))) (fun h => by rw [Bd.returns] at h; cases h)
          refine ⟨_, _, ?_, hrun, hended, _, _, rfl, ?_, ⟨_, rfl⟩, hW, hsame.mono (by decide) (by decide)⟩
          · show Steps p.tables e below (T71.setTop (mkF m 220 #[.val (.int p0), .val (.int p1), .val (.int p2), .val (.int v2), .val (.ref (A nj)), .val (.ref b4), .val (.ref b31), .val (.int (own_min nj)), .val (.int (own_max nj)), .val (.int (p1 &&& (7 : Int32))), .unset, .unset, .unset] [])) _
            refine XS.iload X71.here hx rfl (hb hby at_220) rfl ?_
            show Steps p.tables e below (T71.setTop (mkF m 222 #[.val (.int p0), .val (.int p1), .val (.int p2), .val (.int v2), .val (.ref (A nj)), .val (.ref b4), .val (.ref b31), .val (.int (own_min nj)), .val (.int (own_max nj)), .val (.int (p1 &&& (7 : Int32))), .unset, .unset, .unset] [(.int (own_max nj))])) _
            refine XS.iconst X71.here hx rfl (hb hby at_222) ?_
            show Steps p.tables e below (T71.setTop (mkF m 223 #[.val (.int p0), .val (.int p1), .val (.int p2), .val (.int v2), .val (.ref (A nj)), .val (.ref b4), .val (.ref b31), .val (.int (own_min nj)), .val (.int (own_max nj)), .val (.int (p1 &&& (7 : Int32))), .unset, .unset, .unset] [(.int (1 : Int32)), (.int (own_max nj))])) _
            refine XS.iadd X71.here hx rfl (hb hby at_223) rfl ?_
            show Steps p.tables e below (T71.setTop (mkF m 224 #[.val (.int p0), .val (.int p1), .val (.int p2), .val (.int v2), .val (.ref (A nj)), .val (.ref b4), .val (.ref b31), .val (.int (own_min nj)), .val (.int (own_max nj)), .val (.int (p1 &&& (7 : Int32))), .unset, .unset, .unset] [(.int ((own_max nj) + (1 : Int32)))])) _
            refine XS.i2s X71.here hx rfl (hb hby at_224) rfl ?_
            show Steps p.tables e below (T71.setTop (mkF m 225 #[.val (.int p0), .val (.int p1), .val (.int p2), .val (.int v2), .val (.ref (A nj)), .val (.ref b4), .val (.ref b31), .val (.int (own_min nj)), .val (.int (own_max nj)), .val (.int (p1 &&& (7 : Int32))), .unset, .unset, .unset] [(.int (((own_max nj) + (1 : Int32)).toInt16.toInt32))])) _
            refine XS.istore X71.here hx rfl (hb hby at_225) rfl (l' := #[.val (.int p0), .val (.int p1), .val (.int p2), .val (.int v2), .val (.ref (A nj)), .val (.ref b4), .val (.ref b31), .val (.int (own_min nj)), .val (.int (own_max nj)), .val (.int (p1 &&& (7 : Int32))), .val (.int (((own_max nj) + (1 : Int32)).toInt16.toInt32)), .unset, .unset]) rfl ?_
            show Steps p.tables e below (T71.setTop (mkF m 227 #[.val (.int p0), .val (.int p1), .val (.int p2), .val (.int v2), .val (.ref (A nj)), .val (.ref b4), .val (.ref b31), .val (.int (own_min nj)), .val (.int (own_max nj)), .val (.int (p1 &&& (7 : Int32))), .val (.int (((own_max nj) + (1 : Int32)).toInt16.toInt32)), .unset, .unset] [])) _
            refine XS.iconst X71.here hx rfl (hb hby at_227) ?_
            show Steps p.tables e below (T71.setTop (mkF m 228 #[.val (.int p0), .val (.int p1), .val (.int p2), .val (.int v2), .val (.ref (A nj)), .val (.ref b4), .val (.ref b31), .val (.int (own_min nj)), .val (.int (own_max nj)), .val (.int (p1 &&& (7 : Int32))), .val (.int (((own_max nj) + (1 : Int32)).toInt16.toInt32)), .unset, .unset] [(.int (0 : Int32))])) _
            refine XS.istore X71.here hx rfl (hb hby at_228) rfl (l' := #[.val (.int p0), .val (.int p1), .val (.int p2), .val (.int v2), .val (.ref (A nj)), .val (.ref b4), .val (.ref b31), .val (.int (own_min nj)), .val (.int (own_max nj)), .val (.int (p1 &&& (7 : Int32))), .val (.int (((own_max nj) + (1 : Int32)).toInt16.toInt32)), .val (.int (0 : Int32)), .unset]) rfl ?_
            show Steps p.tables e below (T71.setTop (mkF m 230 #[.val (.int p0), .val (.int p1), .val (.int p2), .val (.int v2), .val (.ref (A nj)), .val (.ref b4), .val (.ref b31), .val (.int (own_min nj)), .val (.int (own_max nj)), .val (.int (p1 &&& (7 : Int32))), .val (.int (((own_max nj) + (1 : Int32)).toInt16.toInt32)), .val (.int (0 : Int32)), .unset] [])) _
            refine XS.goto X71.here hx rfl (pc0 := 230) (pc' := 262) rfl (hb hby at_230) (by decide) (by decide) ?_
            refine XS.aload X71.here hx rfl (hb hby at_262) rfl rfl ?_
            refine XS.iload X71.here hx rfl (hb hby at_264) rfl ?_
            refine st368.trans ?_
            show Steps p.tables e below (T368.setTop (mkF m 269 #[.val (.int p0), .val (.int p1), .val (.int p2), .val (.int v2), .val (.ref (A nj)), .val (.ref b4), .val (.ref b31), .val (.int (own_min nj)), .val (.int (own_max nj)), .val (.int (p1 &&& (7 : Int32))), .val (.int (((own_max nj) + (1 : Int32)).toInt16.toInt32)), .val (.int (0 : Int32)), .unset] [(.int (if (((own_max nj) + (1 : Int32)).toInt16.toInt32) < (own_min nj) then (0 : Int32) else (if (own_max nj) < (((own_max nj) + (1 : Int32)).toInt16.toInt32) then (0 : Int32) else (1 : Int32))))])) _
            refine XS.iload X368.here hx rfl (hb hby at_269) rfl ?_
            show Steps p.tables e below (T368.setTop (mkF m 271 #[.val (.int p0), .val (.int p1), .val (.int p2), .val (.int v2), .val (.ref (A nj)), .val (.ref b4), .val (.ref b31), .val (.int (own_min nj)), .val (.int (own_max nj)), .val (.int (p1 &&& (7 : Int32))), .val (.int (((own_max nj) + (1 : Int32)).toInt16.toInt32)), .val (.int (0 : Int32)), .unset] [(.int (0 : Int32)), (.int (if (((own_max nj) + (1 : Int32)).toInt16.toInt32) < (own_min nj) then (0 : Int32) else (if (own_max nj) < (((own_max nj) + (1 : Int32)).toInt16.toInt32) then (0 : Int32) else (1 : Int32))))])) _
            refine J271_383 _ rfl _ ?_
            show Steps p.tables e below (T368.setTop (mkF m 279 #[.val (.int p0), .val (.int p1), .val (.int p2), .val (.int v2), .val (.ref (A nj)), .val (.ref b4), .val (.ref b31), .val (.int (own_min nj)), .val (.int (own_max nj)), .val (.int (p1 &&& (7 : Int32))), .val (.int (((own_max nj) + (1 : Int32)).toInt16.toInt32)), .val (.int (0 : Int32)), .unset] [(.int (if (if (((own_max nj) + (1 : Int32)).toInt16.toInt32) < (own_min nj) then (0 : Int32) else (if (own_max nj) < (((own_max nj) + (1 : Int32)).toInt16.toInt32) then (0 : Int32) else (1 : Int32))) = (0 : Int32) then (1 : Int32) else (0 : Int32)))])) _
            exact retN X368 hx (t := .boolean) Bd.returns (by simp) (hb hby at_279) hr
          · show Q0 Z p0 p1 p2 A h0 n0 _ T368.heap _
            rw [e368]
            refine ⟨?_, N368⟩
            have hm : (if (((own_max nj) + (1 : Int32)).toInt16.toInt32) < (own_min nj) then (0 : Int32) else (if (own_max nj) < (((own_max nj) + (1 : Int32)).toInt16.toInt32) then (0 : Int32) else (1 : Int32))) = (0 : Int32) := own_m3 ⟨nj, ltj⟩
            rw [if_pos hm]
            rfl
        · have K : ∀ target, Steps p.tables e below (T71.setTop (mkF m 233 #[.val (.int p0), .val (.int p1), .val (.int p2), .val (.int v2), .val (.ref (A nj)), .val (.ref b4), .val (.ref b31), .val (.int (own_min nj)), .val (.int (own_max nj)), .val (.int (p1 &&& (7 : Int32))), .unset, .unset, .unset] [])) target → Steps p.tables e below (T71.setTop (mkF m 217 #[.val (.int p0), .val (.int p1), .val (.int p2), .val (.int v2), .val (.ref (A nj)), .val (.ref b4), .val (.ref b31), .val (.int (own_min nj)), .val (.int (own_max nj)), .val (.int (p1 &&& (7 : Int32))), .unset, .unset, .unset] [(.int (3 : Int32)), (.int (p1 &&& (7 : Int32)))])) target := by
            intro target kt
            refine XS.icmpYes X71.here hx rfl (pc0 := 217) (pc' := 233) rfl (hb hby at_217) rfl (feq hc217_311).2 (by decide) (by decide) ?_
            exact kt
          refine Done.of ?_ K
          have J245_384 : ∀ wj : Int32, wj = (if (p2.toInt16.toInt32) < (own_min nj) then (0 : Int32) else (if (own_max nj) < (p2.toInt16.toInt32) then (0 : Int32) else (1 : Int32))) → ∀ target, Steps p.tables e below (T71.setTop (mkF m 260 #[.val (.int p0), .val (.int p1), .val (.int p2), .val (.int v2), .val (.ref (A nj)), .val (.ref b4), .val (.ref b31), .val (.int (own_min nj)), .val (.int (own_max nj)), .val (.int (p1 &&& (7 : Int32))), .val (.int (p2.toInt16.toInt32)), .unset, .val (.int (p2.toInt16.toInt32))] [(.int wj)])) target → Steps p.tables e below (T71.setTop (mkF m 245 #[.val (.int p0), .val (.int p1), .val (.int p2), .val (.int v2), .val (.ref (A nj)), .val (.ref b4), .val (.ref b31), .val (.int (own_min nj)), .val (.int (own_max nj)), .val (.int (p1 &&& (7 : Int32))), .val (.int (p2.toInt16.toInt32)), .unset, .val (.int (p2.toInt16.toInt32))] [(.int (own_min nj)), (.int (p2.toInt16.toInt32))])) target := by
            intro wj hw0 target kt
            by_cases hj245 : (p2.toInt16.toInt32) < (own_min nj)
            · rw [if_pos hj245] at hw0
              show Steps p.tables e below (T71.setTop (mkF m 245 #[.val (.int p0), .val (.int p1), .val (.int p2), .val (.int v2), .val (.ref (A nj)), .val (.ref b4), .val (.ref b31), .val (.int (own_min nj)), .val (.int (own_max nj)), .val (.int (p1 &&& (7 : Int32))), .val (.int (p2.toInt16.toInt32)), .unset, .val (.int (p2.toInt16.toInt32))] [(.int (own_min nj)), (.int (p2.toInt16.toInt32))])) _
              refine XS.icmpYes X71.here hx rfl (pc0 := 245) (pc' := 259) rfl (hb hby at_245) rfl (tlt hj245).1 (by decide) (by decide) ?_
              show Steps p.tables e below (T71.setTop (mkF m 259 #[.val (.int p0), .val (.int p1), .val (.int p2), .val (.int v2), .val (.ref (A nj)), .val (.ref b4), .val (.ref b31), .val (.int (own_min nj)), .val (.int (own_max nj)), .val (.int (p1 &&& (7 : Int32))), .val (.int (p2.toInt16.toInt32)), .unset, .val (.int (p2.toInt16.toInt32))] [])) _
              refine XS.iconst X71.here hx rfl (hb hby at_259) ?_
              rw [hw0] at kt
              exact kt
            · rw [if_neg hj245] at hw0
              show Steps p.tables e below (T71.setTop (mkF m 245 #[.val (.int p0), .val (.int p1), .val (.int p2), .val (.int v2), .val (.ref (A nj)), .val (.ref b4), .val (.ref b31), .val (.int (own_min nj)), .val (.int (own_max nj)), .val (.int (p1 &&& (7 : Int32))), .val (.int (p2.toInt16.toInt32)), .unset, .val (.int (p2.toInt16.toInt32))] [(.int (own_min nj)), (.int (p2.toInt16.toInt32))])) _
              refine XS.icmpNo X71.here hx rfl (hb hby at_245) rfl (flt hj245).1 ?_
              show Steps p.tables e below (T71.setTop (mkF m 248 #[.val (.int p0), .val (.int p1), .val (.int p2), .val (.int v2), .val (.ref (A nj)), .val (.ref b4), .val (.ref b31), .val (.int (own_min nj)), .val (.int (own_max nj)), .val (.int (p1 &&& (7 : Int32))), .val (.int (p2.toInt16.toInt32)), .unset, .val (.int (p2.toInt16.toInt32))] [])) _
              refine XS.iload X71.here hx rfl (hb hby at_248) rfl ?_
              show Steps p.tables e below (T71.setTop (mkF m 250 #[.val (.int p0), .val (.int p1), .val (.int p2), .val (.int v2), .val (.ref (A nj)), .val (.ref b4), .val (.ref b31), .val (.int (own_min nj)), .val (.int (own_max nj)), .val (.int (p1 &&& (7 : Int32))), .val (.int (p2.toInt16.toInt32)), .unset, .val (.int (p2.toInt16.toInt32))] [(.int (p2.toInt16.toInt32))])) _
              refine XS.iload X71.here hx rfl (hb hby at_250) rfl ?_
              by_cases hj252 : (own_max nj) < (p2.toInt16.toInt32)
              · rw [if_pos hj252] at hw0
                show Steps p.tables e below (T71.setTop (mkF m 252 #[.val (.int p0), .val (.int p1), .val (.int p2), .val (.int v2), .val (.ref (A nj)), .val (.ref b4), .val (.ref b31), .val (.int (own_min nj)), .val (.int (own_max nj)), .val (.int (p1 &&& (7 : Int32))), .val (.int (p2.toInt16.toInt32)), .unset, .val (.int (p2.toInt16.toInt32))] [(.int (own_max nj)), (.int (p2.toInt16.toInt32))])) _
                refine XS.icmpYes X71.here hx rfl (pc0 := 252) (pc' := 259) rfl (hb hby at_252) rfl (tlt hj252).2.2.1 (by decide) (by decide) ?_
                show Steps p.tables e below (T71.setTop (mkF m 259 #[.val (.int p0), .val (.int p1), .val (.int p2), .val (.int v2), .val (.ref (A nj)), .val (.ref b4), .val (.ref b31), .val (.int (own_min nj)), .val (.int (own_max nj)), .val (.int (p1 &&& (7 : Int32))), .val (.int (p2.toInt16.toInt32)), .unset, .val (.int (p2.toInt16.toInt32))] [])) _
                refine XS.iconst X71.here hx rfl (hb hby at_259) ?_
                rw [hw0] at kt
                exact kt
              · rw [if_neg hj252] at hw0
                show Steps p.tables e below (T71.setTop (mkF m 252 #[.val (.int p0), .val (.int p1), .val (.int p2), .val (.int v2), .val (.ref (A nj)), .val (.ref b4), .val (.ref b31), .val (.int (own_min nj)), .val (.int (own_max nj)), .val (.int (p1 &&& (7 : Int32))), .val (.int (p2.toInt16.toInt32)), .unset, .val (.int (p2.toInt16.toInt32))] [(.int (own_max nj)), (.int (p2.toInt16.toInt32))])) _
                refine XS.icmpNo X71.here hx rfl (hb hby at_252) rfl (flt hj252).2.2.1 ?_
                show Steps p.tables e below (T71.setTop (mkF m 255 #[.val (.int p0), .val (.int p1), .val (.int p2), .val (.int v2), .val (.ref (A nj)), .val (.ref b4), .val (.ref b31), .val (.int (own_min nj)), .val (.int (own_max nj)), .val (.int (p1 &&& (7 : Int32))), .val (.int (p2.toInt16.toInt32)), .unset, .val (.int (p2.toInt16.toInt32))] [])) _
                refine XS.iconst X71.here hx rfl (hb hby at_255) ?_
                show Steps p.tables e below (T71.setTop (mkF m 256 #[.val (.int p0), .val (.int p1), .val (.int p2), .val (.int v2), .val (.ref (A nj)), .val (.ref b4), .val (.ref b31), .val (.int (own_min nj)), .val (.int (own_max nj)), .val (.int (p1 &&& (7 : Int32))), .val (.int (p2.toInt16.toInt32)), .unset, .val (.int (p2.toInt16.toInt32))] [(.int (1 : Int32))])) _
                refine XS.goto X71.here hx rfl (pc0 := 256) (pc' := 260) rfl (hb hby at_256) (by decide) (by decide) ?_
                rw [hw0] at kt
                exact kt
          have cy385 := ((Fmin nj ltj).ext E4)
          have cy386 := (cy385.other W6 (Or.inl ne_4_1))
          have cy387 := (cy386.other W8 (Or.inl ne_4_1))
          have cy388 := (cy387.other W10 (Or.inl ne_4_1))
          have cy389 := (cy388.other W12 (Or.inl ne_4_1))
          have cy390 := (cy389.other W14 (Or.inl ne_4_1))
          have cy391 := (cy390.other W16 (Or.inl ne_4_1))
          have cy392 := (cy391.other W18 (Or.inl ne_4_1))
          have cy393 := (cy392.other W20 (Or.inl ne_4_1))
          have cy394 := (cy393.other W22 (Or.inl ne_4_1))
          have cy395 := (cy394.other W24 (Or.inl ne_4_1))
          have cy396 := (cy395.other W26 (Or.inl ne_4_1))
          have cy397 := (cy396.other W28 (Or.inl ne_4_1))
          have cy398 := (cy397.other W30 (Or.inl ne_4_1))
          have cy399 := (cy398.ext E31)
          have cy400 := (cy399.other W47 (Or.inl ne_31_1))
          have cy401 := (cy400.other W49 (Or.inl ne_31_1))
          have cy402 := (cy401.other W51 (Or.inl ne_31_1))
          have cy403 := (cy402.other W53 (Or.inl ne_31_1))
          have cy404 := (cy403.other W55 (Or.inl ne_31_1))
          have cy405 := (cy404.other W57 (Or.inl ne_31_1))
          have cy406 := (cy405.other W59 (Or.inl ne_31_1))
          have cy407 := (cy406.other W61 (Or.inl ne_31_1))
          have cy408 := (cy407.other W63 (Or.inl ne_31_1))
          have cy409 := (cy408.other W65 (Or.inl ne_31_1))
          have cy410 := (cy409.other W67 (Or.inl ne_31_1))
          have cy411 := (cy410.other W69 (Or.inl ne_31_1))
          have cy412 := (cy411.other W71 (Or.inl ne_31_1))
          have cy413 := ((Fmax nj ltj).ext E4)
          have cy414 := (cy413.other W6 (Or.inl ne_4_1))
          have cy415 := (cy414.other W8 (Or.inl ne_4_1))
          have cy416 := (cy415.other W10 (Or.inl ne_4_1))
          have cy417 := (cy416.other W12 (Or.inl ne_4_1))
          have cy418 := (cy417.other W14 (Or.inl ne_4_1))
          have cy419 := (cy418.other W16 (Or.inl ne_4_1))
          have cy420 := (cy419.other W18 (Or.inl ne_4_1))
          have cy421 := (cy420.other W20 (Or.inl ne_4_1))
          have cy422 := (cy421.other W22 (Or.inl ne_4_1))
          have cy423 := (cy422.other W24 (Or.inl ne_4_1))
          have cy424 := (cy423.other W26 (Or.inl ne_4_1))
          have cy425 := (cy424.other W28 (Or.inl ne_4_1))
          have cy426 := (cy425.other W30 (Or.inl ne_4_1))
          have cy427 := (cy426.ext E31)
          have cy428 := (cy427.other W47 (Or.inl ne_31_1))
          have cy429 := (cy428.other W49 (Or.inl ne_31_1))
          have cy430 := (cy429.other W51 (Or.inl ne_31_1))
          have cy431 := (cy430.other W53 (Or.inl ne_31_1))
          have cy432 := (cy431.other W55 (Or.inl ne_31_1))
          have cy433 := (cy432.other W57 (Or.inl ne_31_1))
          have cy434 := (cy433.other W59 (Or.inl ne_31_1))
          have cy435 := (cy434.other W61 (Or.inl ne_31_1))
          have cy436 := (cy435.other W63 (Or.inl ne_31_1))
          have cy437 := (cy436.other W65 (Or.inl ne_31_1))
          have cy438 := (cy437.other W67 (Or.inl ne_31_1))
          have cy439 := (cy438.other W69 (Or.inl ne_31_1))
          have cy440 := (cy439.other W71 (Or.inl ne_31_1))
          have cy442 := (cy45.ext E31)
          have cy443 := (cy442.wr W47)
          have cy444 := (cy443.wr W49)
          have cy445 := (cy444.wr W51)
          have cy446 := (cy445.wr W53)
          have cy447 := (cy446.wr W55)
          have cy448 := (cy447.wr W57)
          have cy449 := (cy448.wr W59)
          have cy450 := (cy449.wr W61)
          have cy451 := (cy450.wr W63)
          have cy452 := (cy451.wr W65)
          have cy453 := (cy452.wr W67)
          have cy454 := (cy453.wr W69)
          have cy455 := (cy454.wr W71)
          obtain ⟨cq441, kq441, q441a, q441b, q441c⟩ := isOf hZ e71 cy455
          obtain ⟨_, _, ⟨T441, L441, k441, n441⟩, -, X441, ⟨Lc441, hQ441, l441, y441, z441⟩, st441⟩ := X71.virtualBack hx (y := (⟨"com/example/brokerwire/brokerwire/ApiKey", "implementsVersion", "(S)Z"⟩ : MethodName)) (z := (⟨"com/example/brokerwire/brokerwire/ApiKey", "implementsVersion", "(S)Z"⟩ : MethodName)) hown (mvT hZ (hw _ (List.mem_of_getElem? (i := 9) rfl))) (mvT hZ (hw _ (List.mem_of_getElem? (i := 10) rfl))) (notFace_of_selects (args := #[]) (mvT hZ (hw _ (List.mem_of_getElem? (i := 12) rfl)))) (mvT hZ (hw _ (List.mem_of_getElem? (i := 12) rfl))) (mvT hZ (hw _ (List.mem_of_getElem? (i := 11) rfl))) (by decide) (backOf (W := 0) (rm2 l Z a0 hw [] (A nj) (p2.toInt16.toInt32) (own_min nj) (own_max nj) h71 n0 Z71 cy412 cy440) hZ (hw _ (List.mem_of_getElem? (i := 13) rfl)) (hw _ (List.mem_of_getElem? (i := 6) rfl)) (by decide) (by decide)) q441a q441c (g := (mkF m 266 #[.val (.int p0), .val (.int p1), .val (.int p2), .val (.int v2), .val (.ref (A nj)), .val (.ref b4), .val (.ref b31), .val (.int (own_min nj)), .val (.int (own_max nj)), .val (.int (p1 &&& (7 : Int32))), .val (.int (p2.toInt16.toInt32)), .val (.int (if (p2.toInt16.toInt32) < (own_min nj) then (0 : Int32) else (if (own_max nj) < (p2.toInt16.toInt32) then (0 : Int32) else (1 : Int32)))), .val (.int (p2.toInt16.toInt32))] [(.int (p2.toInt16.toInt32)), (.ref (A nj))])) rfl (by rw [hml]; rfl) (Steps.refl _) (argsL := [(.int (p2.toInt16.toInt32))]) (rest := []) (lenOf pd_1 rfl) rfl (by show 2 * 0 + _ ≤ _; exact Nat.le_of_eq rfl) (hb hby at_266) (fun _ _ => ⟨rfl, e71, (by decide : 2 + 0 ≤ _), (by decide : 26 + 0 ≤ _)⟩)
          dsimp only [Pt.U, Pt.locs, Pt.cells, Pt.slots] at X441 l441 y441 z441 st441 hQ441
          rw [l441, y441, z441] at X441
          obtain ⟨rfl, N441q, e441⟩ := hQ441
          have N441 := Fr.app N71 N441q
          obtain ⟨fs, hr, hrun, hended, hW, hsame⟩ := X441.leave (v := some (.int (1 : Int32))) (fun h => by rw [Bd.returns] at h; cases h)
          refine ⟨_, _, ?_, hrun, hended, _, _, rfl, ?_, ⟨_, rfl⟩, hW, hsame.mono (by decide) (by decide)⟩
          · show Steps p.tables e below (T71.setTop (mkF m 233 #[.val (.int p0), .val (.int p1), .val (.int p2), .val (.int v2), .val (.ref (A nj)), .val (.ref b4), .val (.ref b31), .val (.int (own_min nj)), .val (.int (own_max nj)), .val (.int (p1 &&& (7 : Int32))), .unset, .unset, .unset] [])) _
            refine XS.iloadN X71.here hx rfl (hb hby at_233) rfl ?_
            show Steps p.tables e below (T71.setTop (mkF m 234 #[.val (.int p0), .val (.int p1), .val (.int p2), .val (.int v2), .val (.ref (A nj)), .val (.ref b4), .val (.ref b31), .val (.int (own_min nj)), .val (.int (own_max nj)), .val (.int (p1 &&& (7 : Int32))), .unset, .unset, .unset] [(.int p2)])) _
            refine XS.i2s X71.here hx rfl (hb hby at_234) rfl ?_
            show Steps p.tables e below (T71.setTop (mkF m 235 #[.val (.int p0), .val (.int p1), .val (.int p2), .val (.int v2), .val (.ref (A nj)), .val (.ref b4), .val (.ref b31), .val (.int (own_min nj)), .val (.int (own_max nj)), .val (.int (p1 &&& (7 : Int32))), .unset, .unset, .unset] [(.int (p2.toInt16.toInt32))])) _
            refine XS.istore X71.here hx rfl (hb hby at_235) rfl (l' := #[.val (.int p0), .val (.int p1), .val (.int p2), .val (.int v2), .val (.ref (A nj)), .val (.ref b4), .val (.ref b31), .val (.int (own_min nj)), .val (.int (own_max nj)), .val (.int (p1 &&& (7 : Int32))), .val (.int (p2.toInt16.toInt32)), .unset, .unset]) rfl ?_
            show Steps p.tables e below (T71.setTop (mkF m 237 #[.val (.int p0), .val (.int p1), .val (.int p2), .val (.int v2), .val (.ref (A nj)), .val (.ref b4), .val (.ref b31), .val (.int (own_min nj)), .val (.int (own_max nj)), .val (.int (p1 &&& (7 : Int32))), .val (.int (p2.toInt16.toInt32)), .unset, .unset] [])) _
            refine XS.iload X71.here hx rfl (hb hby at_237) rfl ?_
            show Steps p.tables e below (T71.setTop (mkF m 239 #[.val (.int p0), .val (.int p1), .val (.int p2), .val (.int v2), .val (.ref (A nj)), .val (.ref b4), .val (.ref b31), .val (.int (own_min nj)), .val (.int (own_max nj)), .val (.int (p1 &&& (7 : Int32))), .val (.int (p2.toInt16.toInt32)), .unset, .unset] [(.int (p2.toInt16.toInt32))])) _
            refine XS.istore X71.here hx rfl (hb hby at_239) rfl (l' := #[.val (.int p0), .val (.int p1), .val (.int p2), .val (.int v2), .val (.ref (A nj)), .val (.ref b4), .val (.ref b31), .val (.int (own_min nj)), .val (.int (own_max nj)), .val (.int (p1 &&& (7 : Int32))), .val (.int (p2.toInt16.toInt32)), .unset, .val (.int (p2.toInt16.toInt32))]) rfl ?_
            show Steps p.tables e below (T71.setTop (mkF m 241 #[.val (.int p0), .val (.int p1), .val (.int p2), .val (.int v2), .val (.ref (A nj)), .val (.ref b4), .val (.ref b31), .val (.int (own_min nj)), .val (.int (own_max nj)), .val (.int (p1 &&& (7 : Int32))), .val (.int (p2.toInt16.toInt32)), .unset, .val (.int (p2.toInt16.toInt32))] [])) _
            refine XS.iload X71.here hx rfl (hb hby at_241) rfl ?_
            refine XS.iload X71.here hx rfl (hb hby at_243) rfl ?_
            show Steps p.tables e below (T71.setTop (mkF m 245 #[.val (.int p0), .val (.int p1), .val (.int p2), .val (.int v2), .val (.ref (A nj)), .val (.ref b4), .val (.ref b31), .val (.int (own_min nj)), .val (.int (own_max nj)), .val (.int (p1 &&& (7 : Int32))), .val (.int (p2.toInt16.toInt32)), .unset, .val (.int (p2.toInt16.toInt32))] [(.int (own_min nj)), (.int (p2.toInt16.toInt32))])) _
            refine J245_384 _ rfl _ ?_
            refine XS.istore X71.here hx rfl (hb hby at_260) rfl (l' := #[.val (.int p0), .val (.int p1), .val (.int p2), .val (.int v2), .val (.ref (A nj)), .val (.ref b4), .val (.ref b31), .val (.int (own_min nj)), .val (.int (own_max nj)), .val (.int (p1 &&& (7 : Int32))), .val (.int (p2.toInt16.toInt32)), .val (.int (if (p2.toInt16.toInt32) < (own_min nj) then (0 : Int32) else (if (own_max nj) < (p2.toInt16.toInt32) then (0 : Int32) else (1 : Int32)))), .val (.int (p2.toInt16.toInt32))]) rfl ?_
            show Steps p.tables e below (T71.setTop (mkF m 262 #[.val (.int p0), .val (.int p1), .val (.int p2), .val (.int v2), .val (.ref (A nj)), .val (.ref b4), .val (.ref b31), .val (.int (own_min nj)), .val (.int (own_max nj)), .val (.int (p1 &&& (7 : Int32))), .val (.int (p2.toInt16.toInt32)), .val (.int (if (p2.toInt16.toInt32) < (own_min nj) then (0 : Int32) else (if (own_max nj) < (p2.toInt16.toInt32) then (0 : Int32) else (1 : Int32)))), .val (.int (p2.toInt16.toInt32))] [])) _
            refine XS.aload X71.here hx rfl (hb hby at_262) rfl rfl ?_
            refine XS.iload X71.here hx rfl (hb hby at_264) rfl ?_
            refine st441.trans ?_
            refine XS.iload X441.here hx rfl (hb hby at_269) rfl ?_
            show Steps p.tables e below (T441.setTop (mkF m 271 #[.val (.int p0), .val (.int p1), .val (.int p2), .val (.int v2), .val (.ref (A nj)), .val (.ref b4), .val (.ref b31), .val (.int (own_min nj)), .val (.int (own_max nj)), .val (.int (p1 &&& (7 : Int32))), .val (.int (p2.toInt16.toInt32)), .val (.int (if (p2.toInt16.toInt32) < (own_min nj) then (0 : Int32) else (if (own_max nj) < (p2.toInt16.toInt32) then (0 : Int32) else (1 : Int32)))), .val (.int (p2.toInt16.toInt32))] [(.int (if (p2.toInt16.toInt32) < (own_min nj) then (0 : Int32) else (if (own_max nj) < (p2.toInt16.toInt32) then (0 : Int32) else (1 : Int32)))), (.int (if (p2.toInt16.toInt32) < (own_min nj) then (0 : Int32) else (if (own_max nj) < (p2.toInt16.toInt32) then (0 : Int32) else (1 : Int32))))])) _
            refine XS.icmpNo X441.here hx rfl (hb hby at_271) rfl (teq (rfl : (if (p2.toInt16.toInt32) < (own_min nj) then (0 : Int32) else (if (own_max nj) < (p2.toInt16.toInt32) then (0 : Int32) else (1 : Int32))) = (if (p2.toInt16.toInt32) < (own_min nj) then (0 : Int32) else (if (own_max nj) < (p2.toInt16.toInt32) then (0 : Int32) else (1 : Int32))))).2 ?_
            show Steps p.tables e below (T441.setTop (mkF m 274 #[.val (.int p0), .val (.int p1), .val (.int p2), .val (.int v2), .val (.ref (A nj)), .val (.ref b4), .val (.ref b31), .val (.int (own_min nj)), .val (.int (own_max nj)), .val (.int (p1 &&& (7 : Int32))), .val (.int (p2.toInt16.toInt32)), .val (.int (if (p2.toInt16.toInt32) < (own_min nj) then (0 : Int32) else (if (own_max nj) < (p2.toInt16.toInt32) then (0 : Int32) else (1 : Int32)))), .val (.int (p2.toInt16.toInt32))] [])) _
            refine XS.iconst X441.here hx rfl (hb hby at_274) ?_
            show Steps p.tables e below (T441.setTop (mkF m 275 #[.val (.int p0), .val (.int p1), .val (.int p2), .val (.int v2), .val (.ref (A nj)), .val (.ref b4), .val (.ref b31), .val (.int (own_min nj)), .val (.int (own_max nj)), .val (.int (p1 &&& (7 : Int32))), .val (.int (p2.toInt16.toInt32)), .val (.int (if (p2.toInt16.toInt32) < (own_min nj) then (0 : Int32) else (if (own_max nj) < (p2.toInt16.toInt32) then (0 : Int32) else (1 : Int32)))), .val (.int (p2.toInt16.toInt32))] [(.int (1 : Int32))])) _
            refine XS.goto X441.here hx rfl (pc0 := 275) (pc' := 279) rfl (hb hby at_275) (by decide) (by decide) ?_
            show Steps p.tables e below (T441.setTop (mkF m 279 #[.val (.int p0), .val (.int p1), .val (.int p2), .val (.int v2), .val (.ref (A nj)), .val (.ref b4), .val (.ref b31), .val (.int (own_min nj)), .val (.int (own_max nj)), .val (.int (p1 &&& (7 : Int32))), .val (.int (p2.toInt16.toInt32)), .val (.int (if (p2.toInt16.toInt32) < (own_min nj) then (0 : Int32) else (if (own_max nj) < (p2.toInt16.toInt32) then (0 : Int32) else (1 : Int32)))), .val (.int (p2.toInt16.toInt32))] [(.int (1 : Int32))])) _
            exact retN X441 hx (t := .boolean) Bd.returns (by simp) (hb hby at_279) hr
          · show Q0 Z p0 p1 p2 A h0 n0 _ T441.heap _
            rw [e441]
            refine ⟨?_, N441⟩
            rfl
set_option maxRecDepth 65536 in
set_option maxHeartbeats 40000000 in
theorem comes_1 {Post : Tables → Env → Array Value → State → Outcome → State → Prop} (hpost : ∀ tb e args s v u, (limb_1_1.after args s (.returned v) u = true ∧ limb_1_2.after args s (.returned v) u = true ∧ True) → FrameEnd s (.returned v) u (Jvm.fieldLocs frame_1_writes args s ++ Jvm.arrayLocs frame_1_arrays args s ++ Jvm.staticLocs frame_1_statics s) 16 128 → Post tb e args s (.returned v) u) :
    ArmFor flags0 classFile x code maxLocals ret World_1 tables_1 room_1 Calls_1 rest_1 Pre_1 Post := by
  intro l hfl _ _ p e ha hc hk s m args below hf hA hF happ hP
  obtain ⟨hcalls, hrest, hpre⟩ := hP
  obtain ⟨-, -, -, hnamed, -, -, -, hat⟩ := (Spec.applies_iff hf).mp happ
  obtain ⟨hg, hn⟩ := and_e (Cond.before_iff.mp (show (Jvm.Cond.and given_1 narrow_1).before args s = true from hpre))
  obtain ⟨g1, g2⟩ := and_e hg
  obtain ⟨g3, g4⟩ := and_e g2
  obtain ⟨g5, g6⟩ := and_e g4
  obtain ⟨w0, w1, w2, rfl⟩ : ∃ w0 w1 w2 : Value, args = #[w0, w1, w2] := by
    have hs : args.size = 3 := by simpa [Cond.value, given_1] using g1
    obtain ⟨L⟩ := args
    match L, hs with
    | [w0, w1, w2], _ => exact ⟨w0, w1, w2, rfl⟩
  have hw := fun d (hd : d ∈ tables_1) => atoms_spec (ws := Jvm.Cond.code x code maxLocals ret :: tables_1) hat d (List.mem_cons_of_mem _ hd)
  have hfit : Fit s := fun {y c} hc i hi => by
    obtain ⟨ha, rfl⟩ := Array.getElem?_eq_some_iff.mp hc
    have q := List.all_eq_true.mp ((Array.all_eq_true_iff_forall_mem.mp hF) _ (Array.getElem_mem ha)) i (List.mem_range.mpr hi)
    simpa [Array.getElem?_eq_getElem hi] using q
  obtain ⟨i0, ei0⟩ := is_v g3
  obtain rfl : w0 = (.int i0) := Option.some.inj ei0
  obtain ⟨i1, ei1⟩ := is_v g5
  obtain rfl : w1 = (.int i1) := Option.some.inj ei1
  obtain ⟨i2, ei2⟩ := is_v g6
  obtain rfl : w2 = (.int i2) := Option.some.inj ei2
  obtain ⟨nr0, hn⟩ := and_e hn
  obtain ⟨x0, ex0⟩ := exa_v nr0
  have EE0 := Exa.start ex0 nr0
  have SS0 := Sta.start ex0 (Or.inr ⟨(hw _ (List.mem_of_getElem? (i := 6) rfl)), (hw _ (List.mem_of_getElem? (i := 7) rfl))⟩)
  obtain ⟨nr1, hn⟩ := and_e hn
  have FF0_minVersion := Fld.start ((fld_at ex0).symm.trans (own_eqint nr1))
  obtain ⟨nr2, hn⟩ := and_e hn
  have FF0_maxVersion := Fld.start ((fld_at ex0).symm.trans (own_eqint nr2))
  obtain ⟨nr3, hn⟩ := and_e hn
  obtain ⟨x1, ex1⟩ := exa_v nr3
  have EE1 := Exa.start ex1 nr3
  have SS1 := Sta.start ex1 (Or.inr ⟨(hw _ (List.mem_of_getElem? (i := 6) rfl)), (hw _ (List.mem_of_getElem? (i := 19) rfl))⟩)
  obtain ⟨nr4, hn⟩ := and_e hn
  have FF1_minVersion := Fld.start ((fld_at ex1).symm.trans (own_eqint nr4))
  obtain ⟨nr5, hn⟩ := and_e hn
  obtain ⟨x2, ex2⟩ := exa_v nr5
  have EE2 := Exa.start ex2 nr5
  have SS2 := Sta.start ex2 (Or.inr ⟨(hw _ (List.mem_of_getElem? (i := 6) rfl)), (hw _ (List.mem_of_getElem? (i := 21) rfl))⟩)
  obtain ⟨nr6, hn⟩ := and_e hn
  have FF2_minVersion := Fld.start ((fld_at ex2).symm.trans (own_eqint nr6))
  obtain ⟨nr7, hn⟩ := and_e hn
  have FF2_maxVersion := Fld.start ((fld_at ex2).symm.trans (own_eqint nr7))
  obtain ⟨nr8, hn⟩ := and_e hn
  obtain ⟨x3, ex3⟩ := exa_v nr8
  have EE3 := Exa.start ex3 nr8
  have SS3 := Sta.start ex3 (Or.inr ⟨(hw _ (List.mem_of_getElem? (i := 6) rfl)), (hw _ (List.mem_of_getElem? (i := 23) rfl))⟩)
  obtain ⟨nr9, hn⟩ := and_e hn
  have FF3_minVersion := Fld.start ((fld_at ex3).symm.trans (own_eqint nr9))
  obtain ⟨nr10, hn⟩ := and_e hn
  obtain ⟨x4, ex4⟩ := exa_v nr10
  have EE4 := Exa.start ex4 nr10
  have SS4 := Sta.start ex4 (Or.inr ⟨(hw _ (List.mem_of_getElem? (i := 6) rfl)), (hw _ (List.mem_of_getElem? (i := 25) rfl))⟩)
  obtain ⟨nr11, hn⟩ := and_e hn
  have FF4_minVersion := Fld.start ((fld_at ex4).symm.trans (own_eqint nr11))
  obtain ⟨nr12, hn⟩ := and_e hn
  obtain ⟨x5, ex5⟩ := exa_v nr12
  have EE5 := Exa.start ex5 nr12
  have SS5 := Sta.start ex5 (Or.inr ⟨(hw _ (List.mem_of_getElem? (i := 6) rfl)), (hw _ (List.mem_of_getElem? (i := 27) rfl))⟩)
  obtain ⟨nr13, hn⟩ := and_e hn
  have FF5_minVersion := Fld.start ((fld_at ex5).symm.trans (own_eqint nr13))
  obtain ⟨nr14, hn⟩ := and_e hn
  have FF5_maxVersion := Fld.start ((fld_at ex5).symm.trans (own_eqint nr14))
  obtain ⟨nr15, hn⟩ := and_e hn
  obtain ⟨x6, ex6⟩ := exa_v nr15
  have EE6 := Exa.start ex6 nr15
  have SS6 := Sta.start ex6 (Or.inr ⟨(hw _ (List.mem_of_getElem? (i := 6) rfl)), (hw _ (List.mem_of_getElem? (i := 29) rfl))⟩)
  obtain ⟨nr16, hn⟩ := and_e hn
  have FF6_minVersion := Fld.start ((fld_at ex6).symm.trans (own_eqint nr16))
  obtain ⟨nr17, hn⟩ := and_e hn
  have FF4_maxVersion := Fld.start ((fld_at ex4).symm.trans (own_eqint nr17))
  obtain ⟨nr18, hn⟩ := and_e hn
  have FF6_maxVersion := Fld.start ((fld_at ex6).symm.trans (own_eqint nr18))
  obtain ⟨nr19, hn⟩ := and_e hn
  obtain ⟨x7, ex7⟩ := exa_v nr19
  have EE7 := Exa.start ex7 nr19
  have SS7 := Sta.start ex7 (Or.inr ⟨(hw _ (List.mem_of_getElem? (i := 6) rfl)), (hw _ (List.mem_of_getElem? (i := 31) rfl))⟩)
  obtain ⟨nr20, hn⟩ := and_e hn
  have FF7_minVersion := Fld.start ((fld_at ex7).symm.trans (own_eqint nr20))
  obtain ⟨nr21, hn⟩ := and_e hn
  obtain ⟨x8, ex8⟩ := exa_v nr21
  have EE8 := Exa.start ex8 nr21
  have SS8 := Sta.start ex8 (Or.inr ⟨(hw _ (List.mem_of_getElem? (i := 6) rfl)), (hw _ (List.mem_of_getElem? (i := 33) rfl))⟩)
  obtain ⟨nr22, hn⟩ := and_e hn
  have FF8_minVersion := Fld.start ((fld_at ex8).symm.trans (own_eqint nr22))
  obtain ⟨nr23, hn⟩ := and_e hn
  have FF8_maxVersion := Fld.start ((fld_at ex8).symm.trans (own_eqint nr23))
  obtain ⟨nr24, hn⟩ := and_e hn
  have FF1_maxVersion := Fld.start ((fld_at ex1).symm.trans (own_eqint nr24))
  obtain ⟨nr25, hn⟩ := and_e hn
  obtain ⟨x9, ex9⟩ := exa_v nr25
  have EE9 := Exa.start ex9 nr25
  have SS9 := Sta.start ex9 (Or.inr ⟨(hw _ (List.mem_of_getElem? (i := 6) rfl)), (hw _ (List.mem_of_getElem? (i := 35) rfl))⟩)
  obtain ⟨nr26, hn⟩ := and_e hn
  have FF9_minVersion := Fld.start ((fld_at ex9).symm.trans (own_eqint nr26))
  obtain ⟨nr27, hn⟩ := and_e hn
  obtain ⟨x10, ex10⟩ := exa_v nr27
  have EE10 := Exa.start ex10 nr27
  have SS10 := Sta.start ex10 (Or.inr ⟨(hw _ (List.mem_of_getElem? (i := 6) rfl)), (hw _ (List.mem_of_getElem? (i := 37) rfl))⟩)
  obtain ⟨nr28, hn⟩ := and_e hn
  have FF10_minVersion := Fld.start ((fld_at ex10).symm.trans (own_eqint nr28))
  obtain ⟨nr29, hn⟩ := and_e hn
  have FF10_maxVersion := Fld.start ((fld_at ex10).symm.trans (own_eqint nr29))
  obtain ⟨nr30, hn⟩ := and_e hn
  obtain ⟨x11, ex11⟩ := exa_v nr30
  have EE11 := Exa.start ex11 nr30
  have SS11 := Sta.start ex11 (Or.inr ⟨(hw _ (List.mem_of_getElem? (i := 6) rfl)), (hw _ (List.mem_of_getElem? (i := 39) rfl))⟩)
  obtain ⟨nr31, hn⟩ := and_e hn
  have FF11_minVersion := Fld.start ((fld_at ex11).symm.trans (own_eqint nr31))
  obtain ⟨nr32, hn⟩ := and_e hn
  have FF11_maxVersion := Fld.start ((fld_at ex11).symm.trans (own_eqint nr32))
  obtain ⟨nr33, hn⟩ := and_e hn
  have FF9_maxVersion := Fld.start ((fld_at ex9).symm.trans (own_eqint nr33))
  obtain ⟨nr34, hn⟩ := and_e hn
  obtain ⟨x12, ex12⟩ := exa_v nr34
  have EE12 := Exa.start ex12 nr34
  have SS12 := Sta.start ex12 (Or.inr ⟨(hw _ (List.mem_of_getElem? (i := 6) rfl)), (hw _ (List.mem_of_getElem? (i := 41) rfl))⟩)
  obtain ⟨nr35, hn⟩ := and_e hn
  have FF12_minVersion := Fld.start ((fld_at ex12).symm.trans (own_eqint nr35))
  obtain ⟨nr36, hn⟩ := and_e hn
  have FF12_maxVersion := Fld.start ((fld_at ex12).symm.trans (own_eqint nr36))
  obtain ⟨nr37, hn⟩ := and_e hn
  have FF3_maxVersion := Fld.start ((fld_at ex3).symm.trans (own_eqint nr37))
  have FF7_maxVersion := Fld.start ((fld_at ex7).symm.trans (own_eqint hn))
  let A : Nat → Addr := fun i => [x0, x1, x10, x6, x8, x9, x11, x3, x2, x12, x4, x5, x7].getD i 0
  have EA : ∀ i, i < 13 → Exa s s.heap (A i) "com/example/brokerwire/brokerwire/ApiKey" := by
    intro i hi
    match i, hi with
    | 0, _ => exact EE0
    | 1, _ => exact EE1
    | 2, _ => exact EE10
    | 3, _ => exact EE6
    | 4, _ => exact EE8
    | 5, _ => exact EE9
    | 6, _ => exact EE11
    | 7, _ => exact EE3
    | 8, _ => exact EE2
    | 9, _ => exact EE12
    | 10, _ => exact EE4
    | 11, _ => exact EE5
    | 12, _ => exact EE7
    | n + 13, q => exact absurd q (by omega)
  have Fmin : ∀ i, i < 13 → Fld s s.heap (A i) "com/example/brokerwire/brokerwire/ApiKey" "minVersion" "S" (.int (own_min i)) := by
    intro i hi
    match i, hi with
    | 0, _ => exact FF0_minVersion
    | 1, _ => exact FF1_minVersion
    | 2, _ => exact FF10_minVersion
    | 3, _ => exact FF6_minVersion
    | 4, _ => exact FF8_minVersion
    | 5, _ => exact FF9_minVersion
    | 6, _ => exact FF11_minVersion
    | 7, _ => exact FF3_minVersion
    | 8, _ => exact FF2_minVersion
    | 9, _ => exact FF12_minVersion
    | 10, _ => exact FF4_minVersion
    | 11, _ => exact FF5_minVersion
    | 12, _ => exact FF7_minVersion
    | n + 13, q => exact absurd q (by omega)
  have Fmax : ∀ i, i < 13 → Fld s s.heap (A i) "com/example/brokerwire/brokerwire/ApiKey" "maxVersion" "S" (.int (own_max i)) := by
    intro i hi
    match i, hi with
    | 0, _ => exact FF0_maxVersion
    | 1, _ => exact FF1_maxVersion
    | 2, _ => exact FF10_maxVersion
    | 3, _ => exact FF6_maxVersion
    | 4, _ => exact FF8_maxVersion
    | 5, _ => exact FF9_maxVersion
    | 6, _ => exact FF11_maxVersion
    | 7, _ => exact FF3_maxVersion
    | 8, _ => exact FF2_maxVersion
    | 9, _ => exact FF12_maxVersion
    | 10, _ => exact FF4_maxVersion
    | 11, _ => exact FF5_maxVersion
    | 12, _ => exact FF7_maxVersion
    | n + 13, q => exact absurd q (by omega)
  obtain ⟨n, o, h1, h2, h3, _, L, rfl, ⟨rfl, N⟩, hq⟩ := rm0 l s _ hw tables_1 i0 i1 i2 A s.heap s.heap.size (Nat.le_refl _) SS0 SS1 SS10 SS6 SS8 SS9 SS11 SS3 SS2 SS12 SS4 SS5 SS7 EA Fmin Fmax p e ha hc hk s m _ below hf ((Spec.applies_iff_loose hf).mp happ).1 ⟨rfl, State.Warmed39.refl s, rfl⟩ trivial
  refine ⟨n, _, h1, h2, h3, hpost _ _ _ _ _ _ ⟨Cond.after_iff.mpr rfl, Cond.after_iff.mpr (eq_i res_at (Term.int_eval (1)) rfl), trivial⟩ ⟨hq.1, hq.2.1, (hq.2.2.sift fun y hy => Or.inr (N y hy)).mono (by decide) (by decide)⟩⟩
theorem main_1_1 : Claimed_1_1 := comes_1 fun _ _ _ _ _ _ h hF => ⟨h.1, hF⟩
theorem main_1_2 : Claimed_1_2 := comes_1 fun _ _ _ _ _ _ h hF => ⟨h.2.1, hF⟩
end Jvm.Pilot.@@N@@
namespace Jvm.Pilot.@@N@@
open Jvm Jvm.ClassFile Sem Op Lib Jvm.Free Jvm.Stand Jvm.Pilot.@@N@@.Jvm.D
/-! MADE BY PROGRAM (witnessworld.py) out of the Statement's table words and the real class files: 12 classes; the members and pool entries that the words name. The judged class is class 1, her method 2. -/
namespace start1
open Jvm.ClassFile
def u (s : String) : CpInfo := .utf8 (stringToUtf16 s)
/-- a pool by its gaps: so many unusable entries, then the entry; so many at the end -/
def gap : Nat → List CpInfo → List CpInfo
  | 0, r => r
  | n + 1, r => .unusable :: gap n r
def poolList (es : List (Nat × CpInfo)) (last : Nat) : List CpInfo := es.foldr (fun e r => gap e.1 (e.2 :: r)) (gap last [])
def pool (es : List (Nat × CpInfo)) (last : Nat) : Array CpInfo := ⟨poolList es last⟩
def fileOf (pool : Array CpInfo) (this : Nat) (attrs : Array Attribute := #[]) (ms : Array MethodInfo := #[]) (fl : Nat := 33) (sup : Nat := 0) (ifs : Array Nat := #[]) (fds : Array FieldInfo := #[]) : ClassFile where
  minorVersion := 0
  majorVersion := 65
  constantPool := pool
  accessFlags := fl
  thisClass := this
  superClass := sup
  interfaces := ifs
  fields := fds
  methods := ms
  attributes := attrs
def plain (name : String) (sup : Option ClassId) : Class where
  name := name
  kind := .ordinary
  loader := none
  accessFlags := 33
  super := sup
  interfaces := #[]
  cf := none
  fields := #[]
  methods := #[]
  instanceTypes := #[]
  staticTypes := #[]
  resolved := #[]
  callSites := []
  init := .initialized
  statics := none
  mirror := none

def pool0 : Array CpInfo := pool [(5, u "<init>"), (0, u "()V"), (1, .class_ 10), (1, u "java/lang/Object")] 113

def k0m0 : Method := { name := "<init>", desc := "()V", sig := { parameters := [], returnType := none }, accessFlags := 1, code := none }
/-- java/lang/Object -/
def k0 : Class := { plain "java/lang/Object" none with
  accessFlags := 33
  interfaces := #[]
  cf := some (fileOf pool0 8 #[] #[{ accessFlags := 1, nameIndex := 5, descriptorIndex := 6, attributes := #[] }] 33 0 #[] #[])
  fields := #[]
  methods := #[k0m0]
  instanceTypes := #[]
  staticTypes := #[]
  resolved := Array.replicate 124 none
  statics := none }

def pool1 : Array CpInfo := pool [(2, .class_ 4), (1, u "java/lang/Object"), (0, u "<init>"), (0, u "()V"), (0, .fieldref 8 9), (0, .class_ 10), (0, .nameAndType 11 12), (0, u "com/example/brokerwire/brokerwire/ApiKey"), (0, u "PRODUCE"), (0, u "Lcom/example/brokerwire/brokerwire/ApiKey;"), (0, .fieldref 8 14), (0, .nameAndType 15 12), (0, u "FETCH"), (0, .fieldref 8 17), (0, .nameAndType 18 12), (0, u "LIST_OFFSETS"), (0, .fieldref 8 20), (0, .nameAndType 21 12), (0, u "METADATA"), (0, .fieldref 8 23), (0, .nameAndType 24 12), (0, u "OFFSET_COMMIT"), (0, .fieldref 8 26), (0, .nameAndType 27 12), (0, u "OFFSET_FETCH"), (0, .fieldref 8 29), (0, .nameAndType 30 12), (0, u "FIND_COORDINATOR"), (0, .fieldref 8 32), (0, .nameAndType 33 12), (0, u "JOIN_GROUP"), (0, .fieldref 8 35), (0, .nameAndType 36 12), (0, u "HEARTBEAT"), (0, .fieldref 8 38), (0, .nameAndType 39 12), (0, u "LEAVE_GROUP"), (0, .fieldref 8 41), (0, .nameAndType 42 12), (0, u "SYNC_GROUP"), (0, .fieldref 8 44), (0, .nameAndType 45 12), (0, u "API_VERSIONS"), (0, .fieldref 8 47), (0, .nameAndType 48 12), (0, u "CREATE_TOPICS"), (0, .integer 2147483647), (0, .methodref 51 52), (0, .class_ 53), (0, .nameAndType 54 55), (0, u "com/example/brokerwire/brokerwire/ApiKeyImplementsVersionPinLaw"), (0, u "pick"), (0, u "(I)Lcom/example/brokerwire/brokerwire/ApiKey;"), (0, .methodref 8 57), (0, .nameAndType 58 59), (0, u "implementsVersion"), (0, u "(S)Z"), (3, u "law"), (0, u "(III)Z")] 4

def k1m0 : Method := { name := "<init>", desc := "()V", sig := { parameters := [], returnType := none }, accessFlags := 1, code := none }
def k1c1 : Code := { maxStack := 2, maxLocals := 1, code := method_2_code, exceptionTable := #[], attributes := #[] }
def k1m1 : Method := { name := "pick", desc := "(I)Lcom/example/brokerwire/brokerwire/ApiKey;", sig := { parameters := [.int], returnType := some (.object "com/example/brokerwire/brokerwire/ApiKey") }, accessFlags := 10, code := some k1c1 }
def k1c2 : Code := { maxStack := 4, maxLocals := 13, code := code, exceptionTable := #[], attributes := #[] }
def k1m2 : Method := { name := "law", desc := "(III)Z", sig := { parameters := [.int, .int, .int], returnType := some .boolean }, accessFlags := 9, code := some k1c2 }
/-- com/example/brokerwire/brokerwire/ApiKeyImplementsVersionPinLaw -/
def k1 : Class := { plain "com/example/brokerwire/brokerwire/ApiKeyImplementsVersionPinLaw" (some 0) with
  accessFlags := 49
  interfaces := #[]
  cf := some (fileOf pool1 51 #[] #[{ accessFlags := 1, nameIndex := 5, descriptorIndex := 6, attributes := #[] }, { accessFlags := 10, nameIndex := 54, descriptorIndex := 55, attributes := #[] }, { accessFlags := 9, nameIndex := 63, descriptorIndex := 64, attributes := #[] }] 49 2 #[] #[])
  fields := #[]
  methods := #[k1m0, k1m1, k1m2]
  instanceTypes := #[]
  staticTypes := #[]
  resolved := Array.replicate 69 none
  statics := none }

def pool2 : Array CpInfo := pool [(1, .class_ 2), (0, u "java/lang/constant/Constable"), (0, .class_ 4), (0, u "java/lang/Object")] 6

/-- java/lang/constant/Constable -/
def k2 : Class := { plain "java/lang/constant/Constable" (some 0) with
  accessFlags := 1537
  interfaces := #[]
  cf := some (fileOf pool2 1 #[] #[] 1537 3 #[] #[])
  fields := #[]
  methods := #[]
  instanceTypes := #[]
  staticTypes := #[]
  resolved := Array.replicate 11 none
  statics := none }

def pool3 : Array CpInfo := pool [(1, .class_ 2), (0, u "java/lang/Comparable"), (0, .class_ 4), (0, u "java/lang/Object")] 7

/-- java/lang/Comparable -/
def k3 : Class := { plain "java/lang/Comparable" (some 0) with
  accessFlags := 1537
  interfaces := #[]
  cf := some (fileOf pool3 1 #[] #[] 1537 3 #[] #[])
  fields := #[]
  methods := #[]
  instanceTypes := #[]
  staticTypes := #[]
  resolved := Array.replicate 12 none
  statics := none }

def pool4 : Array CpInfo := pool [(1, .class_ 2), (0, u "java/io/Serializable"), (0, .class_ 4), (0, u "java/lang/Object")] 2

/-- java/io/Serializable -/
def k4 : Class := { plain "java/io/Serializable" (some 0) with
  accessFlags := 1537
  interfaces := #[]
  cf := some (fileOf pool4 1 #[] #[] 1537 3 #[] #[])
  fields := #[]
  methods := #[]
  instanceTypes := #[]
  staticTypes := #[]
  resolved := Array.replicate 7 none
  statics := none }

def pool5 : Array CpInfo := pool [(2, .class_ 4), (1, u "java/lang/Enum"), (0, u "name"), (0, u "Ljava/lang/String;"), (2, u "ordinal"), (0, u "I"), (1, .class_ 14), (1, u "java/lang/Object"), (4, u "hash"), (86, .class_ 108), (1, u "java/lang/Enum$EnumDesc"), (2, .class_ 112), (0, u "java/lang/constant/Constable"), (0, .class_ 114), (0, u "java/lang/Comparable"), (0, .class_ 116), (0, u "java/io/Serializable")] 87

/-- java/lang/Enum -/
def k5 : Class := { plain "java/lang/Enum" (some 0) with
  accessFlags := 1057
  interfaces := #[2, 3, 4]
  cf := some (fileOf pool5 2 #[.nestMembers #[106]] #[] 1057 12 #[111, 113, 115] #[{ accessFlags := 18, nameIndex := 5, descriptorIndex := 6, attributes := #[] }, { accessFlags := 18, nameIndex := 9, descriptorIndex := 10, attributes := #[] }, { accessFlags := 2, nameIndex := 19, descriptorIndex := 10, attributes := #[] }])
  fields := #[{ name := "name", type := (.object "java/lang/String"), accessFlags := 18, slot := 0, constantValue := 0 }, { name := "ordinal", type := .int, accessFlags := 18, slot := 1, constantValue := 0 }, { name := "hash", type := .int, accessFlags := 2, slot := 2, constantValue := 0 }]
  methods := #[]
  instanceTypes := #[(.object "java/lang/String"), .int, .int]
  staticTypes := #[]
  resolved := Array.replicate 204 none
  statics := none }

def pool6 : Array CpInfo := pool [(1, .class_ 2), (0, u "com/example/brokerwire/brokerwire/ApiKey"), (2, u "PRODUCE"), (0, u "Lcom/example/brokerwire/brokerwire/ApiKey;"), (2, u "FETCH"), (2, u "LIST_OFFSETS"), (2, u "METADATA"), (2, u "OFFSET_COMMIT"), (2, u "OFFSET_FETCH"), (2, u "FIND_COORDINATOR"), (2, u "JOIN_GROUP"), (2, u "HEARTBEAT"), (2, u "LEAVE_GROUP"), (2, u "SYNC_GROUP"), (2, u "API_VERSIONS"), (2, u "CREATE_TOPICS"), (2, u "$VALUES"), (0, u "[Lcom/example/brokerwire/brokerwire/ApiKey;"), (6, .class_ 55), (1, u "java/lang/Enum"), (8, u "key"), (0, u "S"), (0, .fieldref 1 67), (0, .nameAndType 68 65), (0, u "minVersion"), (0, .fieldref 1 70), (0, .nameAndType 71 65), (0, u "maxVersion"), (2, u "firstFlexibleVersion"), (17, u "(S)Z"), (28, u "implementsVersion")] 6

def k6c0 : Code := { maxStack := 2, maxLocals := 2, code := prog_1_method_5_code, exceptionTable := #[], attributes := #[] }
def k6m0 : Method := { name := "implementsVersion", desc := "(S)Z", sig := { parameters := [.short], returnType := some .boolean }, accessFlags := 0, code := some k6c0 }
/-- com/example/brokerwire/brokerwire/ApiKey -/
def k6 : Class := { plain "com/example/brokerwire/brokerwire/ApiKey" (some 5) with
  accessFlags := 16432
  interfaces := #[]
  cf := some (fileOf pool6 1 #[] #[{ accessFlags := 0, nameIndex := 121, descriptorIndex := 92, attributes := #[] }] 16432 53 #[] #[{ accessFlags := 16409, nameIndex := 5, descriptorIndex := 6, attributes := #[] }, { accessFlags := 16409, nameIndex := 9, descriptorIndex := 6, attributes := #[] }, { accessFlags := 16409, nameIndex := 12, descriptorIndex := 6, attributes := #[] }, { accessFlags := 16409, nameIndex := 15, descriptorIndex := 6, attributes := #[] }, { accessFlags := 16409, nameIndex := 18, descriptorIndex := 6, attributes := #[] }, { accessFlags := 16409, nameIndex := 21, descriptorIndex := 6, attributes := #[] }, { accessFlags := 16409, nameIndex := 24, descriptorIndex := 6, attributes := #[] }, { accessFlags := 16409, nameIndex := 27, descriptorIndex := 6, attributes := #[] }, { accessFlags := 16409, nameIndex := 30, descriptorIndex := 6, attributes := #[] }, { accessFlags := 16409, nameIndex := 33, descriptorIndex := 6, attributes := #[] }, { accessFlags := 16409, nameIndex := 36, descriptorIndex := 6, attributes := #[] }, { accessFlags := 16409, nameIndex := 39, descriptorIndex := 6, attributes := #[] }, { accessFlags := 16409, nameIndex := 42, descriptorIndex := 6, attributes := #[] }, { accessFlags := 16, nameIndex := 64, descriptorIndex := 65, attributes := #[] }, { accessFlags := 16, nameIndex := 68, descriptorIndex := 65, attributes := #[] }, { accessFlags := 16, nameIndex := 71, descriptorIndex := 65, attributes := #[] }, { accessFlags := 18, nameIndex := 74, descriptorIndex := 65, attributes := #[] }, { accessFlags := 4122, nameIndex := 45, descriptorIndex := 46, attributes := #[] }])
  fields := #[{ name := "PRODUCE", type := (.object "com/example/brokerwire/brokerwire/ApiKey"), accessFlags := 16409, slot := 0, constantValue := 0 }, { name := "FETCH", type := (.object "com/example/brokerwire/brokerwire/ApiKey"), accessFlags := 16409, slot := 1, constantValue := 0 }, { name := "LIST_OFFSETS", type := (.object "com/example/brokerwire/brokerwire/ApiKey"), accessFlags := 16409, slot := 2, constantValue := 0 }, { name := "METADATA", type := (.object "com/example/brokerwire/brokerwire/ApiKey"), accessFlags := 16409, slot := 3, constantValue := 0 }, { name := "OFFSET_COMMIT", type := (.object "com/example/brokerwire/brokerwire/ApiKey"), accessFlags := 16409, slot := 4, constantValue := 0 }, { name := "OFFSET_FETCH", type := (.object "com/example/brokerwire/brokerwire/ApiKey"), accessFlags := 16409, slot := 5, constantValue := 0 }, { name := "FIND_COORDINATOR", type := (.object "com/example/brokerwire/brokerwire/ApiKey"), accessFlags := 16409, slot := 6, constantValue := 0 }, { name := "JOIN_GROUP", type := (.object "com/example/brokerwire/brokerwire/ApiKey"), accessFlags := 16409, slot := 7, constantValue := 0 }, { name := "HEARTBEAT", type := (.object "com/example/brokerwire/brokerwire/ApiKey"), accessFlags := 16409, slot := 8, constantValue := 0 }, { name := "LEAVE_GROUP", type := (.object "com/example/brokerwire/brokerwire/ApiKey"), accessFlags := 16409, slot := 9, constantValue := 0 }, { name := "SYNC_GROUP", type := (.object "com/example/brokerwire/brokerwire/ApiKey"), accessFlags := 16409, slot := 10, constantValue := 0 }, { name := "API_VERSIONS", type := (.object "com/example/brokerwire/brokerwire/ApiKey"), accessFlags := 16409, slot := 11, constantValue := 0 }, { name := "CREATE_TOPICS", type := (.object "com/example/brokerwire/brokerwire/ApiKey"), accessFlags := 16409, slot := 12, constantValue := 0 }, { name := "key", type := .short, accessFlags := 16, slot := 3, constantValue := 0 }, { name := "minVersion", type := .short, accessFlags := 16, slot := 4, constantValue := 0 }, { name := "maxVersion", type := .short, accessFlags := 16, slot := 5, constantValue := 0 }, { name := "firstFlexibleVersion", type := .short, accessFlags := 18, slot := 6, constantValue := 0 }, { name := "$VALUES", type := (.array (.object "com/example/brokerwire/brokerwire/ApiKey")), accessFlags := 4122, slot := 13, constantValue := 0 }]
  methods := #[k6m0]
  instanceTypes := #[(.object "java/lang/String"), .int, .int, .short, .short, .short, .short]
  staticTypes := #[(.object "com/example/brokerwire/brokerwire/ApiKey"), (.object "com/example/brokerwire/brokerwire/ApiKey"), (.object "com/example/brokerwire/brokerwire/ApiKey"), (.object "com/example/brokerwire/brokerwire/ApiKey"), (.object "com/example/brokerwire/brokerwire/ApiKey"), (.object "com/example/brokerwire/brokerwire/ApiKey"), (.object "com/example/brokerwire/brokerwire/ApiKey"), (.object "com/example/brokerwire/brokerwire/ApiKey"), (.object "com/example/brokerwire/brokerwire/ApiKey"), (.object "com/example/brokerwire/brokerwire/ApiKey"), (.object "com/example/brokerwire/brokerwire/ApiKey"), (.object "com/example/brokerwire/brokerwire/ApiKey"), (.object "com/example/brokerwire/brokerwire/ApiKey"), (.array (.object "com/example/brokerwire/brokerwire/ApiKey"))]
  resolved := Array.replicate 128 none
  statics := some 0 }

def pool7 : Array CpInfo := pool [(1, u "java/lang/Cloneable"), (0, .class_ 1), (0, u "java/lang/Object"), (0, .class_ 3)] 3

/-- java/lang/Cloneable -/
def k7 : Class := { plain "java/lang/Cloneable" (some 0) with
  accessFlags := 1537
  interfaces := #[]
  cf := some (fileOf pool7 2 #[] #[] 1537 4 #[] #[])
  fields := #[]
  methods := #[]
  instanceTypes := #[]
  staticTypes := #[]
  resolved := Array.replicate 8 none
  statics := none }

/-- the primitive byte -/
def k8 : Class := { plain "byte" none with kind := .primitive 'B', accessFlags := 0x411 }
/-- [B -/
def k9 : Class := { plain "[B" (some 0) with kind := .array 8 .byte, interfaces := #[7, 4], accessFlags := 1041 }

/-- the primitive int -/
def k10 : Class := { plain "int" none with kind := .primitive 'I', accessFlags := 0x411 }
/-- [I -/
def k11 : Class := { plain "[I" (some 0) with kind := .array 10 .int, interfaces := #[7, 4], accessFlags := 1041 }

def heap : Heap := #[{ cls := 6, slots := #[.ref 1, .ref 2, .ref 11, .ref 7, .ref 9, .ref 10, .ref 12, .ref 4, .ref 3, .ref 13, .ref 5, .ref 6, .ref 8, .null], vm := .statics 6 },
  { cls := 6, slots := #[.null, .int 0, .int 0, .int 0, .int 3, .int 3, .int 0], vm := .none },
  { cls := 6, slots := #[.null, .int 0, .int 0, .int 0, .int 4, .int 4, .int 0], vm := .none },
  { cls := 6, slots := #[.null, .int 0, .int 0, .int 0, .int 0, .int 0, .int 0], vm := .none },
  { cls := 6, slots := #[.null, .int 0, .int 0, .int 0, .int 0, .int 0, .int 0], vm := .none },
  { cls := 6, slots := #[.null, .int 0, .int 0, .int 0, .int 0, .int 0, .int 0], vm := .none },
  { cls := 6, slots := #[.null, .int 0, .int 0, .int 0, .int 0, .int 3, .int 0], vm := .none },
  { cls := 6, slots := #[.null, .int 0, .int 0, .int 0, .int 0, .int 1, .int 0], vm := .none },
  { cls := 6, slots := #[.null, .int 0, .int 0, .int 0, .int 0, .int 0, .int 0], vm := .none },
  { cls := 6, slots := #[.null, .int 0, .int 0, .int 0, .int 2, .int 2, .int 0], vm := .none },
  { cls := 6, slots := #[.null, .int 0, .int 0, .int 0, .int 1, .int 1, .int 0], vm := .none },
  { cls := 6, slots := #[.null, .int 0, .int 0, .int 0, .int 1, .int 1, .int 0], vm := .none },
  { cls := 6, slots := #[.null, .int 0, .int 0, .int 0, .int 0, .int 0, .int 0], vm := .none },
  { cls := 6, slots := #[.null, .int 0, .int 0, .int 0, .int 0, .int 0, .int 0], vm := .none }]
def classes : Array Class := #[k0, k1, k2, k3, k4, k5, k6, k7, k8, k9, k10, k11]
def interned : List (Array UInt16 × Addr) := []
def slotsUsed : Nat := 105
def theMethod : MethodId := ⟨1, 2⟩
def args0 : Array Value := #[.int 1, .int 5, .int 3]
def aboutOver (below : List Frame) : State where
  vm := { classes := classes, interned := interned.toArray }
  heap := heap
  slotsUsed := slotsUsed
  threads := #[{ frames := .invoking theMethod args0 :: below }]
def below0 : List Frame := [.native { method := ⟨0, 0⟩, args := #[] }]
def about1 : State := aboutOver below0
def p0 : Program := .bare "" "" ""
def e0 : Env := launch0.env 0 0 0
theorem w_frames : about1.frames = Frame.invoking theMethod args0 :: below0 := rfl
set_option maxRecDepth 65536 in
theorem w_args : argsFit about1.vm theMethod args0 = true := by decide +kernel
set_option maxRecDepth 65536 in
theorem w_heap : heapFits about1 = true := by decide +kernel
set_option maxRecDepth 65536 in
theorem w_runnable : about1.curStatus? = some .runnable := by decide +kernel
set_option maxRecDepth 65536 in
theorem w_alone : about1.alone = true := by decide +kernel
set_option maxRecDepth 65536 in
theorem w_named : about1.methodNamed? x = some theMethod := by decide +kernel
set_option maxRecDepth 65536 in
theorem w_hears : about1.hears theMethod below0 = true := by decide +kernel
set_option maxRecDepth 65536 in
theorem w_ripe : about1.ripe theMethod args0 below0 = true := by decide +kernel
theorem w_running : about1.status = .running := rfl
set_option maxRecDepth 65536 in
theorem w_room : about1.hasRoom e0.platform room_1 = true :=
  launch0.hasRoom_least _ room_1 (by decide +kernel) (by decide +kernel) (by decide +kernel) (by decide +kernel) (by decide +kernel) (by decide +kernel)
theorem allAtoms_all (ts : List Jvm.Cond) (a : Array Jvm.Value) (st : Jvm.State) : (allAtoms ts).before a st = ts.all (fun c => c.before a st) := by
  induction ts with
  | nil => rfl
  | cons c t ih =>
    show (Jvm.Cond.and c (allAtoms t)).before a st = _
    rw [Jvm.Cond.before_and, ih, List.all_cons]
def words1 : List Jvm.Cond := Jvm.Cond.code x code maxLocals ret :: tables_1
/-- a 'code' word, met by the world's own term for the bytes: nothing is compared byte by byte -/
theorem code_word {y : MethodName} {bytes : ByteArray} {mx : Nat} {rt : Option FieldType} {a : Array Value} {s : State} {m : MethodId} {meth : Method} {c : Code} (h1 : s.methodNamed? y = some m) (h2 : s.vm.method? m = some meth) (h3 : meth.code = some c) (h4 : c.code = bytes)
    (h5 : (c.maxLocals == mx && c.exceptionTable.isEmpty && decide (c.maxStack ≤ mostOperands) && decide (meth.sig.returnType = rt) && !meth.locks && decide (parseMethodDescriptor y.desc = some meth.sig)) = true) : (Jvm.Cond.code y bytes mx rt).before a s = true := by
  simp only [Bool.and_eq_true, beq_iff_eq, Bool.not_eq_true', decide_eq_true_eq] at h5
  obtain ⟨⟨⟨⟨⟨g1, g2⟩, g3⟩, g4⟩, g5⟩, g6⟩ := h5
  simp [Cond.before, Cond.holds, Cond.value, h1, h2, h3, h4, g1, g2, g3, g4, g5, g6]
def isCode : Jvm.Cond → Bool
  | .code _ _ _ _ => true
  | _ => false
theorem all_split {L : List Jvm.Cond} {P : Jvm.Cond → Bool} (h1 : L.all (fun c => isCode c || P c) = true) (h2 : ∀ c ∈ L.filter isCode, P c = true) : L.all P = true := by
  refine List.all_eq_true.mpr fun c hc => ?_
  have h := List.all_eq_true.mp h1 c hc
  rcases Bool.eq_false_or_eq_true (isCode c) with hi | hi
  · exact h2 c (List.mem_filter.mpr ⟨hc, hi⟩)
  · simpa [hi] using h
set_option maxRecDepth 65536 in
theorem w_c0 : (Jvm.Cond.code x code maxLocals ret).before args0 about1 = true := code_word (m := ⟨1, 2⟩) (meth := k1m2) (c := k1c2) (by decide +kernel) rfl rfl rfl (by decide +kernel)
set_option maxRecDepth 65536 in
theorem w_c1 : (Jvm.Cond.code ({ cls := "com/example/brokerwire/brokerwire/ApiKeyImplementsVersionPinLaw", name := "pick", desc := "(I)Lcom/example/brokerwire/brokerwire/ApiKey;" } : Jvm.MethodName) method_2_code (1 : Nat) (Option.some (Jvm.ClassFile.FieldType.object "com/example/brokerwire/brokerwire/ApiKey"))).before args0 about1 = true := code_word (m := ⟨1, 1⟩) (meth := k1m1) (c := k1c1) (by decide +kernel) rfl rfl rfl (by decide +kernel)
set_option maxRecDepth 65536 in
theorem w_c2 : (Jvm.Cond.code ({ cls := "com/example/brokerwire/brokerwire/ApiKey", name := "implementsVersion", desc := "(S)Z" } : Jvm.MethodName) prog_1_method_5_code (2 : Nat) (Option.some Jvm.ClassFile.FieldType.boolean)).before args0 about1 = true := code_word (m := ⟨6, 0⟩) (meth := k6m0) (c := k6c0) (by decide +kernel) rfl rfl rfl (by decide +kernel)
def codes1 : List Jvm.Cond := [Jvm.Cond.code x code maxLocals ret, Jvm.Cond.code ({ cls := "com/example/brokerwire/brokerwire/ApiKeyImplementsVersionPinLaw", name := "pick", desc := "(I)Lcom/example/brokerwire/brokerwire/ApiKey;" } : Jvm.MethodName) method_2_code (1 : Nat) (Option.some (Jvm.ClassFile.FieldType.object "com/example/brokerwire/brokerwire/ApiKey")), Jvm.Cond.code ({ cls := "com/example/brokerwire/brokerwire/ApiKey", name := "implementsVersion", desc := "(S)Z" } : Jvm.MethodName) prog_1_method_5_code (2 : Nat) (Option.some Jvm.ClassFile.FieldType.boolean)]
set_option maxRecDepth 65536 in
theorem codes_eq : words1.filter isCode = codes1 := rfl
theorem w_codes : ∀ c ∈ words1.filter isCode, c.before args0 about1 = true := by
  rw [codes_eq]
  intro c hc
  simp only [codes1, List.mem_cons, List.not_mem_nil, or_false] at hc
  rcases hc with rfl | rfl | rfl
  · exact w_c0
  · exact w_c1
  · exact w_c2
set_option maxRecDepth 65536 in
theorem w_t1 : (words1.take 24).all (fun c => isCode c || c.before args0 about1) = true := by decide +kernel
set_option maxRecDepth 65536 in
theorem w_t2 : (words1.drop 24).all (fun c => isCode c || c.before args0 about1) = true := by decide +kernel
theorem w_tables : (allAtoms (Jvm.Cond.code x code maxLocals ret :: tables_1)).before args0 about1 = true := by
  rw [allAtoms_all]
  show words1.all (fun c => c.before args0 about1) = true
  refine all_split ?_ w_codes
  rw [← List.take_append_drop 24 words1, List.all_append, w_t1, w_t2]
  rfl
set_option maxRecDepth 65536 in
theorem w_case : (Jvm.Cond.and given_1 narrow_1).before args0 about1 = true := by decide +kernel
theorem w_applies : (headSpec (Jvm.Cond.code x code maxLocals ret :: tables_1) room_1).applies x e0.platform about1 = true :=
  (Spec.applies_iff w_frames).mpr ⟨w_running, w_runnable, w_alone, w_named, w_hears, w_ripe, w_room, w_tables⟩
theorem atStart : AtStart classFile x code maxLocals ret World_1 tables_1 room_1 Calls_1 rest_1 Pre_1 launch0 p0 e0 about1 theMethod args0 below0 :=
  ⟨lists_1, trivial, launch0.admits_env _ _ _, launch0.least_env, fairChoices_fair.cas, fairChoices_fair.clock, w_frames, w_args, w_heap, w_applies, trivial, trivial, w_case⟩
end start1
theorem witness_1 : WitnessClaimed_1 := ⟨start1.p0, start1.e0, start1.about1, start1.theMethod, start1.args0, start1.below0, start1.atStart⟩
end Jvm.Pilot.@@N@@
