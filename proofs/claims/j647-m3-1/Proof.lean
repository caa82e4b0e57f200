import JvmDerived
import JvmDerived.Pilot.@@N@@Statement
import JvmDerived.Pilot.@@N@@Code
set_option linter.unusedVariables false
set_option linter.unusedSimpArgs false
namespace Jvm.RoadKit
open Sem ClassFile Op Lib Jvm.Stand Jvm.Free Jvm.LawKit
section New
variable {p : Program} {l : Launch} {e : Env} {R : Room} {s : State} {m : MethodId} {args : Array Value} {below : List Frame} {meth : Method} {c : Code} {T : State} {locs : List Loc} {cells slots : Nat}
theorem retI (X : Stand p l e R s m args below meth c T locs cells slots) (hx : p.tables.exec = Jvm.exec) {pc : Nat} {Ls : Array Slot} {z : Int32} {rest : List Value} (hret : meth.sig.returnType = some .int) (hd : decode c.code pc = .ok (.ireturn, 1)) {fs : List Frame}
    (hl : ∀ (f : JFrame) (acts : List Action), f.method = m → f.locked = none → f.entered = [] → (doReturn e (T.setTop f) acts (some (.int z))).1 = T.setFrames fs) : Steps p.tables e below (T.setTop (mkF m pc Ls (.int z :: rest))) (T.setFrames fs) := by
  have hm' : T.vm.method? m = some meth := X.method'
  have hn : narrow .int (.int z) = .int z := rfl
  show Steps p.tables e below (T.setTop { method := m, pc := pc, locals := Ls, stack := _ :: rest, locked := none }) _
  jvm_step X.here [X.here.top, hx, hd, hm', hret, hn]
  first | (intro acts; rw [hl _ acts rfl rfl rfl]) | rw [hl _ _ rfl rfl rfl]
  exact Steps.refl _
theorem lremM {g : JFrame} {target : State} (X : Stand p l e R s m args below meth c T locs cells slots) (hx : p.tables.exec = Jvm.exec) (hg : g.method = m) {x y : Int64} {rest : List Value} (hd : decode c.code g.pc = .ok (.lrem, 1)) (hs : g.stack = .long y :: .long x :: rest) (hy : y ≠ 0)
    (hr : Steps p.tables e below (T.setTop { g with pc := g.pc + 1, stack := .long (x % y) :: rest }) target) : Steps p.tables e below (T.setTop g) target := by
  have q : x - x / y * y = x % y := lrem_mod x y
  exact XS.lrem X.here hx hg hd hs hy (by rw [q]; exact hr)
/-- from the state t the invocation ends as Q says -/
def Done (p : Program) (e : Env) (below : List Frame) (Q : Outcome → State → Prop) (t : State) : Prop := ∃ s₂ o, Steps p.tables e below t s₂ ∧ s₂.status = .running ∧ Ended s₂ below o ∧ Q o s₂
theorem Done.of {p : Program} {e : Env} {below : List Frame} {Q : Outcome → State → Prop} {t t' : State} (h : Done p e below Q t') (k : ∀ target, Steps p.tables e below t' target → Steps p.tables e below t target) : Done p e below Q t := by
  obtain ⟨s₂, o, h1, h2⟩ := h
  exact ⟨s₂, o, k _ h1, h2⟩
end New
end Jvm.RoadKit
/- laws to paste: Road.backV, Road.lenW, Road.chN, Road.eqW, Road.codOf (cut by pick.py; bodies as the Statement names them) -/
namespace Jvm.Pilot.@@N@@
namespace StrChars
open Jvm Sem ClassFile Op Lib Jvm.Stand Jvm.Free.XT Jvm.Free.ALB Jvm.Free.JM Jvm.Free
open Jvm.Lib.Cold (StaticIs)
/-- a char array whose places are chars -/
def Ch (a : Addr) (A : Cell) (U : State) : Prop := Arr .char a A U ∧ Typed .char A
theorem Ch.mv {a : Addr} {A : Cell} {U U' : State} (h : Ch a A U) (hal : U.vm.Alike U'.vm) (hh : U'.heap = U.heap) : Ch a A U' := ⟨h.1.mv hal hh, h.2⟩
theorem Ch.keep {a : Addr} {A : Cell} {U U' : State} (h : Ch a A U) (hal : U.vm.Alike U'.vm) (hk : U'.heap[a]? = some A) : Ch a A U' := ⟨h.1.keep hal hk, h.2⟩
/-- what place i of a char[]'s cell holds -/
def cv (A : Cell) (i : Nat) : Int32 := match A.slots[i]? with | some (.int x) => x | _ => 0
theorem Ch.get {a : Addr} {A : Cell} {U : State} (h : Ch a A U) {i : Nat} (hi : i < A.slots.size) : A.slots[i]? = some (.int (cv A i)) := by
  have e := Array.getElem?_eq_getElem hi
  have f := h.2 i _ e
  unfold cv; rw [e]
  generalize A.slots[i] = v at f
  cases v <;> simp [fits] at f ⊢
/-- the byte that i2b leaves of a char -/
def lo8 (x : Int32) : Int32 := x.toInt8.toInt32
theorem fits_lo8 (y : Int32) : fits .byte (.int (lo8 y)) = true := by
  have h1 := y.toInt8.le_toInt
  have h2 := y.toInt8.toInt_lt
  simp only [lo8, fits, Bool.and_eq_true, decide_eq_true_eq, Int32.le_iff_toInt_le, Int8.toInt_toInt32, show (-128 : Int32).toInt = -128 from by decide, show (127 : Int32).toInt = 127 from by decide]
  omega
/-- A' is A but that each place j of lo .. hi - 1 holds f j -/
def Laid (A A' : Cell) (lo hi : Nat) (f : Nat → Value) : Prop := A'.cls = A.cls ∧ A'.vm = A.vm ∧ A'.slots.size = A.slots.size ∧ ∀ i, A'.slots[i]? = if lo ≤ i ∧ i < hi then some (f i) else A.slots[i]?
theorem Laid.zero (A : Cell) (lo : Nat) (f : Nat → Value) : Laid A A lo (lo + 0) f := ⟨rfl, rfl, rfl, fun i => by rw [if_neg (by omega)]⟩
theorem Laid.step {A Ak : Cell} {lo k : Nat} {f : Nat → Value} {v : Value} (h : Laid A Ak lo k f) (hlo : lo ≤ k) (hk : k < Ak.slots.size) (hv : v = f k) : Laid A (Ak.setSlot k v) lo (k + 1) f := by
  refine ⟨h.1, h.2.1, by simpa [Cell.setSlot] using h.2.2.1, fun i => ?_⟩
  by_cases e : k = i
  · subst e; rw [Cell.slots_setSlot_self v hk, if_pos (by omega), hv]
  · rw [Cell.slots_setSlot_ne v e, h.2.2.2 i]
    by_cases q : lo ≤ i ∧ i < k
    · rw [if_pos q, if_pos (by omega)]
    · rw [if_neg q, if_neg (by omega)]
def U16 : String := "java/lang/StringUTF16"
namespace Cmp5
def yN : MethodName := ⟨"java/lang/StringUTF16", "compress", "([CI[BII)I"⟩
abbrev yB : ByteArray := jdk_52_method_21_code
theorem d0 : decode yB 0 = .ok (.iconst 0, 1) := by decide +kernel
theorem d1 : decode yB 1 = .ok (.istore 5, 2) := by decide +kernel
theorem d3 : decode yB 3 = .ok (.iload 5, 2) := by decide +kernel
theorem d5 : decode yB 5 = .ok (.iload 4, 2) := by decide +kernel
theorem d7 : decode yB 7 = .ok (.if_icmp (.ge) 37, 3) := by decide +kernel
theorem d10 : decode yB 10 = .ok (.aload_n 0, 1) := by decide +kernel
theorem d11 : decode yB 11 = .ok (.iload_n 1, 1) := by decide +kernel
theorem d12 : decode yB 12 = .ok (.caload, 1) := by decide +kernel
theorem d13 : decode yB 13 = .ok (.istore 6, 2) := by decide +kernel
theorem d15 : decode yB 15 = .ok (.iload 6, 2) := by decide +kernel
theorem d17 : decode yB 17 = .ok (.sipush 255, 3) := by decide +kernel
theorem d20 : decode yB 20 = .ok (.if_icmp (.le) 6, 3) := by decide +kernel
theorem d26 : decode yB 26 = .ok (.aload_n 2, 1) := by decide +kernel
theorem d27 : decode yB 27 = .ok (.iload_n 3, 1) := by decide +kernel
theorem d28 : decode yB 28 = .ok (.iload 6, 2) := by decide +kernel
theorem d30 : decode yB 30 = .ok (.i2b, 1) := by decide +kernel
theorem d31 : decode yB 31 = .ok (.bastore, 1) := by decide +kernel
theorem d32 : decode yB 32 = .ok (.iinc 1 1, 3) := by decide +kernel
theorem d35 : decode yB 35 = .ok (.iinc 3 1, 3) := by decide +kernel
theorem d38 : decode yB 38 = .ok (.iinc 5 1, 3) := by decide +kernel
theorem d41 : decode yB 41 = .ok (.goto (-38), 3) := by decide +kernel
theorem d44 : decode yB 44 = .ok (.iload 4, 2) := by decide +kernel
theorem d46 : decode yB 46 = .ok (.ireturn, 1) := by decide +kernel
def site : List Cond := []
def tab : Cond := tabOf yN yB 7 (some .int) site
def P (b : Addr) (A : Cell) (d : Addr) (B : Cell) (o q len : Nat) (args : Array Value) (s : State) : Prop := args = #[.ref b, .int (Int32.ofNat o), .ref d, .int (Int32.ofNat q), .int (Int32.ofNat len)] ∧ Ch b A s ∧ Arr .byte d B s ∧ b ≠ d ∧ o + len ≤ A.slots.size ∧ q + len ≤ B.slots.size ∧ ∀ i, i < len → ¬ 255 < cv A (o + i)
def E (b : Addr) (A : Cell) (d : Addr) (B : Cell) (o q len : Nat) (r : Option Value) (s u : State) : Prop := r = some (.int (Int32.ofNat len)) ∧ ∃ B', Put d B' s u ∧ Laid B B' q (q + len) (fun j => Value.int (lo8 (cv A (o + (j - q)))))
/-- no char of the range above 255: len; the places written hold each char's low byte -/
theorem law (l : Launch) (b : Addr) (A : Cell) (d : Addr) (B : Cell) (o q len : Nat) : Law l yN 5 5 0 0 yB 7 (some .int) site (P b A d B o q len) (E b A d B o q len) (copyLocs d q len) 0 0 := by
  refine Law.of_walk (plainFor_of_name (by decide +kernel)) (by decide +kernel) (by decide +kernel) (by decide) (fun _ _ h => by rw [h.1]; rfl) (fun _ U U' hal hh h => ⟨h.1, h.2.1.mv hal hh, h.2.2.1.mv hal hh, h.2.2.2⟩) (fun r U U' V V' h1 hal h2 h => ⟨h.1, h.2.elim fun B' q => ⟨B', q.1.mv h1 h2, q.2⟩⟩) ?_
  intro p e s m args below meth c s₁ X0 hexec hbytes hml hret hlk hnm hown hh0 W hP
  obtain ⟨rfl, hA, hB, hne, l1, l2, hp⟩ := hP
  have c1 : Steps p.tables e below (s₁.setTop (entryFrame m #[.ref b, .int (Int32.ofNat o), .ref d, .int (Int32.ofNat q), .int (Int32.ofNat len)] 7)) (s₁.setTop (mkF m 0 #[.val (.ref b), .val (.int (Int32.ofNat o)), .val (.ref d), .val (.int (Int32.ofNat q)), .val (.int (Int32.ofNat len)), .unset, .unset] [])) := entry rfl
  have hA0 := hA.1.mv X0.warmed.alike hh0
  have hB0 := hB.mv X0.warmed.alike hh0
  have a31 := hA.1.2.2.2
  have c2 : Steps p.tables e below (s₁.setTop (entryFrame m #[.ref b, .int (Int32.ofNat o), .ref d, .int (Int32.ofNat q), .int (Int32.ofNat len)] 7)) (s₁.setTop (mkF m 3 #[.val (.ref b), .val (.int (Int32.ofNat o)), .val (.ref d), .val (.int (Int32.ofNat q)), .val (.int (Int32.ofNat len)), .val (.int 0), .unset] [])) := c1.trans (by
    refine iconstV X0.here hexec rfl 0 (hb hbytes d0) (by decide) ?_
    refine XS.istore X0.here hexec rfl (hb hbytes d1) rfl rfl ?_
    exact Steps.refl _)
  have loop : ∀ (r i : Nat), i + r = len → ∀ (z : Slot), (z = .unset ∨ ∃ w, z = .val w ∧ w.category = 1) → ∀ (Tl : State) (Bk : Cell), Stand p l e { frames := 0, locals := 0, cells := 0, slots := 0 } s m #[.ref b, .int (Int32.ofNat o), .ref d, .int (Int32.ofNat q), .int (Int32.ofNat len)] below meth c Tl ([] ++ copyLocs d q i) 0 0 → Put d Bk s₁ Tl → Laid B Bk q (q + i) (fun j => Value.int (lo8 (cv A (o + (j - q))))) →
      Steps p.tables e below (s₁.setTop (entryFrame m #[.ref b, .int (Int32.ofNat o), .ref d, .int (Int32.ofNat q), .int (Int32.ofNat len)] 7)) (Tl.setTop (mkF m 3 #[.val (.ref b), .val (.int (Int32.ofNat (o + i))), .val (.ref d), .val (.int (Int32.ofNat (q + i))), .val (.int (Int32.ofNat len)), .val (.int (Int32.ofNat i)), z] [])) → ∃ (T' : State) (B' : Cell) (z' : Slot), Stand p l e { frames := 0, locals := 0, cells := 0, slots := 0 } s m #[.ref b, .int (Int32.ofNat o), .ref d, .int (Int32.ofNat q), .int (Int32.ofNat len)] below meth c T' ([] ++ copyLocs d q len) 0 0 ∧ Put d B' s₁ T' ∧ Laid B B' q (q + len) (fun j => Value.int (lo8 (cv A (o + (j - q))))) ∧
      Steps p.tables e below (s₁.setTop (entryFrame m #[.ref b, .int (Int32.ofNat o), .ref d, .int (Int32.ofNat q), .int (Int32.ofNat len)] 7)) (T'.setTop (mkF m 3 #[.val (.ref b), .val (.int (Int32.ofNat (o + len))), .val (.ref d), .val (.int (Int32.ofNat (q + len))), .val (.int (Int32.ofNat len)), .val (.int (Int32.ofNat len)), z'] [])) := by
    intro r
    induction r with
    | zero =>
      intro i hi z hz Tl Bk Xl pl fl cl
      have hil : i = len := by omega
      rw [hil] at Xl fl cl
      exact ⟨Tl, Bk, z, Xl, pl, fl, cl⟩
    | succ r ih =>
      intro i hi z hz Tl Bk Xl pl fl cl
      have all := X0.warmed.alike.symm.trans Xl.warmed.alike
      have hAl := hA0.keep all (pl.other hne hA0.1)
      have hBk := hB0.like all pl.1 fl.1 fl.2.1 fl.2.2.1
      have hlt : q + i < Bk.slots.size := by rw [fl.2.2.1]; omega
      have c3 : Steps p.tables e below (s₁.setTop (entryFrame m #[.ref b, .int (Int32.ofNat o), .ref d, .int (Int32.ofNat q), .int (Int32.ofNat len)] 7)) (Tl.setTop (mkF m 12 #[.val (.ref b), .val (.int (Int32.ofNat (o + i))), .val (.ref d), .val (.int (Int32.ofNat (q + i))), .val (.int (Int32.ofNat len)), .val (.int (Int32.ofNat i)), z] [.int (Int32.ofNat (o + i)), .ref b])) := cl.trans (by
        refine XS.iload Xl.here hexec rfl (hb hbytes d3) rfl ?_
        refine XS.iload Xl.here hexec rfl (hb hbytes d5) rfl ?_
        refine XS.icmpNo Xl.here hexec rfl (hb hbytes d7) rfl (ii_ge_f (lt32 (by omega) (by omega))) ?_
        refine XS.aloadN Xl.here hexec rfl (hb hbytes d10) rfl rfl ?_
        refine XS.iloadN Xl.here hexec rfl (hb hbytes d11) rfl ?_
        exact Steps.refl _)
      have c4 : Steps p.tables e below (s₁.setTop (entryFrame m #[.ref b, .int (Int32.ofNat o), .ref d, .int (Int32.ofNat q), .int (Int32.ofNat len)] 7)) (Tl.setTop (mkF m 13 #[.val (.ref b), .val (.int (Int32.ofNat (o + i))), .val (.ref d), .val (.int (Int32.ofNat (q + i))), .val (.int (Int32.ofNat len)), .val (.int (Int32.ofNat i)), z] [.int (cv A (o + i))])) := c3.trans (by
        refine Xl.aget hexec hAl rfl (hA.get (i := o + i) (by omega)) rfl rfl (hb hbytes d12) ?_
        exact Steps.refl _)
      have c5 : Steps p.tables e below (s₁.setTop (entryFrame m #[.ref b, .int (Int32.ofNat o), .ref d, .int (Int32.ofNat q), .int (Int32.ofNat len)] 7)) (Tl.setTop (mkF m 15 #[.val (.ref b), .val (.int (Int32.ofNat (o + i))), .val (.ref d), .val (.int (Int32.ofNat (q + i))), .val (.int (Int32.ofNat len)), .val (.int (Int32.ofNat i)), .val (.int (cv A (o + i)))] [])) := c4.trans (by
        refine XS.istoreS Xl.here hexec rfl (hb hbytes d13) rfl rfl hz ?_
        exact Steps.refl _)
      have c6 : Steps p.tables e below (s₁.setTop (entryFrame m #[.ref b, .int (Int32.ofNat o), .ref d, .int (Int32.ofNat q), .int (Int32.ofNat len)] 7)) (Tl.setTop (mkF m 31 #[.val (.ref b), .val (.int (Int32.ofNat (o + i))), .val (.ref d), .val (.int (Int32.ofNat (q + i))), .val (.int (Int32.ofNat len)), .val (.int (Int32.ofNat i)), .val (.int (cv A (o + i)))] [.int (lo8 (cv A (o + i))), .int (Int32.ofNat (q + i)), .ref d])) := c5.trans (by
        refine XS.iload Xl.here hexec rfl (hb hbytes d15) rfl ?_
        refine sipushV Xl.here hexec rfl 255 (hb hbytes d17) (by decide) ?_
        refine XS.icmpYes Xl.here hexec rfl (pc0 := 20) rfl (hb hbytes d20) rfl (ii_le_t (hp i (by omega))) (by decide) rfl ?_
        refine XS.aloadN Xl.here hexec rfl (hb hbytes d26) rfl rfl ?_
        refine XS.iloadN Xl.here hexec rfl (hb hbytes d27) rfl ?_
        refine XS.iload Xl.here hexec rfl (hb hbytes d28) rfl ?_
        refine i2b Xl.here hexec rfl (hb hbytes d30) rfl ?_
        exact Steps.refl _)
      obtain ⟨T7, X7, p7, st7⟩ := Xl.aput hexec hBk rfl hlt rfl (fits_lo8 (cv A (o + i))) (g := (mkF m 31 #[.val (.ref b), .val (.int (Int32.ofNat (o + i))), .val (.ref d), .val (.int (Int32.ofNat (q + i))), .val (.int (Int32.ofNat len)), .val (.int (Int32.ofNat i)), .val (.int (cv A (o + i)))] [.int (lo8 (cv A (o + i))), .int (Int32.ofNat (q + i)), .ref d])) rfl (rest := []) rfl (hb hbytes d31)
      have c8 : Steps p.tables e below (s₁.setTop (entryFrame m #[.ref b, .int (Int32.ofNat o), .ref d, .int (Int32.ofNat q), .int (Int32.ofNat len)] 7)) (T7.setTop (mkF m 32 #[.val (.ref b), .val (.int (Int32.ofNat (o + i))), .val (.ref d), .val (.int (Int32.ofNat (q + i))), .val (.int (Int32.ofNat len)), .val (.int (Int32.ofNat i)), .val (.int (cv A (o + i)))] [])) := c6.trans (st7 _ (Steps.refl _))
      have c9 : Steps p.tables e below (s₁.setTop (entryFrame m #[.ref b, .int (Int32.ofNat o), .ref d, .int (Int32.ofNat q), .int (Int32.ofNat len)] 7)) (T7.setTop (mkF m 3 #[.val (.ref b), .val (.int (Int32.ofNat (o + i) + 1)), .val (.ref d), .val (.int (Int32.ofNat (q + i) + 1)), .val (.int (Int32.ofNat len)), .val (.int (Int32.ofNat i + 1)), .val (.int (cv A (o + i)))] [])) := c8.trans (by
        refine iincV X7.here hexec rfl 1 (hb hbytes d32) (by decide) rfl rfl ?_
        refine iincV X7.here hexec rfl 1 (hb hbytes d35) (by decide) rfl rfl ?_
        refine iincV X7.here hexec rfl 1 (hb hbytes d38) (by decide) rfl rfl ?_
        refine XS.goto X7.here hexec rfl (pc0 := 41) rfl (hb hbytes d41) (by decide) rfl ?_
        exact Steps.refl _)
      have c10 : Steps p.tables e below (s₁.setTop (entryFrame m #[.ref b, .int (Int32.ofNat o), .ref d, .int (Int32.ofNat q), .int (Int32.ofNat len)] 7)) (T7.setTop (mkF m 3 #[.val (.ref b), .val (.int (Int32.ofNat (o + (i + 1)))), .val (.ref d), .val (.int (Int32.ofNat (q + (i + 1)))), .val (.int (Int32.ofNat len)), .val (.int (Int32.ofNat (i + 1))), .val (.int (cv A (o + i)))] [])) := by
        have := c9
        rw [succ32, succ32, succ32] at this
        exact this
      exact ih (i + 1) (by omega) _ (Or.inr ⟨_, rfl, rfl⟩) T7 _ (by rw [copyLocs_step, ← List.append_assoc]; exact X7) (pl.trans p7) (fl.step (by omega) hlt (by simp)) c10
  obtain ⟨T9, B9, z9, X9, p9, f9, g9⟩ := loop len 0 (by omega) .unset (Or.inl rfl) s₁ B (by simpa [copyLocs] using X0) ⟨hB0.1, fun _ _ => rfl, rfl⟩ (Laid.zero _ _ _) c2
  have c11 : Steps p.tables e below (s₁.setTop (entryFrame m #[.ref b, .int (Int32.ofNat o), .ref d, .int (Int32.ofNat q), .int (Int32.ofNat len)] 7)) (T9.setTop (mkF m 46 #[.val (.ref b), .val (.int (Int32.ofNat (o + len))), .val (.ref d), .val (.int (Int32.ofNat (q + len))), .val (.int (Int32.ofNat len)), .val (.int (Int32.ofNat len)), z9] [.int (Int32.ofNat len)])) := g9.trans (by
    refine XS.iload X9.here hexec rfl (hb hbytes d3) rfl ?_
    refine XS.iload X9.here hexec rfl (hb hbytes d5) rfl ?_
    refine XS.icmpYes X9.here hexec rfl (pc0 := 7) rfl (hb hbytes d7) rfl (ii_ge_t (nlt32 (by omega) (Nat.le_refl _))) (by decide) rfl ?_
    refine XS.iload X9.here hexec rfl (hb hbytes d44) rfl ?_
    exact Steps.refl _)
  exact ⟨T9, some (.int (Int32.ofNat len)), _, _, _, X9, by simp, rfl, rfl, (fun h => by cases h), ⟨rfl, B9, p9.from hh0, f9⟩, fun fs hl => c11.trans (X9.ireturnOut hexec hret rfl (Or.inl rfl) (hb hbytes d46) hl)⟩
end Cmp5
namespace Cmp3
def yN : MethodName := ⟨"java/lang/StringUTF16", "compress", "([CII)[B"⟩
abbrev yB : ByteArray := jdk_52_method_16_code
theorem d0 : decode yB 0 = .ok (.iload_n 2, 1) := by decide +kernel
theorem d1 : decode yB 1 = .ok (.newarray .byte, 2) := by decide +kernel
theorem d3 : decode yB 3 = .ok (.astore_n 3, 1) := by decide +kernel
theorem d4 : decode yB 4 = .ok (.aload_n 0, 1) := by decide +kernel
theorem d5 : decode yB 5 = .ok (.iload_n 1, 1) := by decide +kernel
theorem d6 : decode yB 6 = .ok (.aload_n 3, 1) := by decide +kernel
theorem d7 : decode yB 7 = .ok (.iconst 0, 1) := by decide +kernel
theorem d8 : decode yB 8 = .ok (.iload_n 2, 1) := by decide +kernel
theorem d9 : decode yB 9 = .ok (.invokestatic 115, 3) := by decide +kernel
theorem d12 : decode yB 12 = .ok (.istore 4, 2) := by decide +kernel
theorem d14 : decode yB 14 = .ok (.iload 4, 2) := by decide +kernel
theorem d16 : decode yB 16 = .ok (.iload_n 2, 1) := by decide +kernel
theorem d17 : decode yB 17 = .ok (.if_icmp (.eq) 40, 3) := by decide +kernel
theorem d57 : decode yB 57 = .ok (.aload_n 3, 1) := by decide +kernel
theorem d58 : decode yB 58 = .ok (.areturn, 1) := by decide +kernel
def site : List Cond := [.arrayClass .byte, Cmp5.tab] ++ staticW U16 115 Cmp5.yN
def tab : Cond := tabOf yN yB 6 (some (.array .byte)) site
def P (b : Addr) (A : Cell) (o len : Nat) (args : Array Value) (s : State) : Prop := args = #[.ref b, .int (Int32.ofNat o), .int (Int32.ofNat len)] ∧ Ch b A s ∧ o + len ≤ A.slots.size ∧ len ≤ 536870912 ∧ ∀ i, i < len → ¬ 255 < cv A (o + i)
def E (b : Addr) (A : Cell) (o len : Nat) (r : Option Value) (s u : State) : Prop := NewArr .byte "[B" len (fun j => .int (lo8 (cv A (o + j)))) r s u ∧ u.heap.size = s.heap.size + 1
/-- no char of the range above 255: a new byte[] of their low bytes -/
theorem law (l : Launch) (b : Addr) (A : Cell) (o len : Nat) : Law l yN 3 3 1 18 yB 6 (some (.array .byte)) site (P b A o len) (E b A o len) [] 1 len := by
  refine Law.of_walk (plainFor_of_name (by decide +kernel)) (by decide +kernel) (by decide +kernel) (by decide) (fun _ _ h => by rw [h.1]; rfl) (fun _ U U' hal hh h => ⟨h.1, h.2.1.mv hal hh, h.2.2⟩) (fun r U U' V V' h1 hal h2 h => ⟨NewArr.mv r U U' V V' h1 hal h2 h.1, by rw [h1, h2]; exact h.2⟩) ?_
  intro p e s m args below meth c s₁ X0 hexec hbytes hml hret hlk hnm hown hh0 W hP
  obtain ⟨rfl, hA, l1, l2, hp⟩ := hP
  have a31 := hA.1.2.2.2
  have c1 : Steps p.tables e below (s₁.setTop (entryFrame m #[.ref b, .int (Int32.ofNat o), .int (Int32.ofNat len)] 6)) (s₁.setTop (mkF m 0 #[.val (.ref b), .val (.int (Int32.ofNat o)), .val (.int (Int32.ofNat len)), .unset, .unset, .unset] [])) := entry rfl
  have c2 : Steps p.tables e below (s₁.setTop (entryFrame m #[.ref b, .int (Int32.ofNat o), .int (Int32.ofNat len)] 6)) (s₁.setTop (mkF m 1 #[.val (.ref b), .val (.int (Int32.ofNat o)), .val (.int (Int32.ofNat len)), .unset, .unset, .unset] [.int (Int32.ofNat len)])) := c1.trans (by
    refine XS.iloadN X0.here hexec rfl (hb hbytes d0) rfl ?_
    exact Steps.refl _)
  obtain ⟨T3, B3, X3, ba3, bs3, bv3, bh3, bf3, st3⟩ := X0.anew hexec (atype := .byte) (wk W (.arrayClass .byte)) rfl (by show len * 1 ≤ _; omega) (by omega) (g := (mkF m 1 #[.val (.ref b), .val (.int (Int32.ofNat o)), .val (.int (Int32.ofNat len)), .unset, .unset, .unset] [.int (Int32.ofNat len)])) rfl (hb hbytes d1) (rest := []) rfl (Nat.le_refl _) (by show 0 + len ≤ len; omega)
  rw [hh0] at ba3 st3
  have kp3 : XT.Kept s T3 := (XT.Kept.of_eq hh0).push bh3
  have hA3 := hA.keep X3.warmed.alike (kp3 _ _ hA.1.1)
  have hne : b ≠ s.heap.size := hA.1.ne
  have c4 : Steps p.tables e below (s₁.setTop (entryFrame m #[.ref b, .int (Int32.ofNat o), .int (Int32.ofNat len)] 6)) (T3.setTop (mkF m 3 #[.val (.ref b), .val (.int (Int32.ofNat o)), .val (.int (Int32.ofNat len)), .unset, .unset, .unset] [.ref s.heap.size])) := c2.trans (st3 _ (Steps.refl _))
  have c5 : Steps p.tables e below (s₁.setTop (entryFrame m #[.ref b, .int (Int32.ofNat o), .int (Int32.ofNat len)] 6)) (T3.setTop (mkF m 9 #[.val (.ref b), .val (.int (Int32.ofNat o)), .val (.int (Int32.ofNat len)), .val (.ref s.heap.size), .unset, .unset] [.int (Int32.ofNat len), .int 0, .ref s.heap.size, .int (Int32.ofNat o), .ref b])) := c4.trans (by
    refine XS.astoreN X3.here hexec rfl (hb hbytes d3) rfl rfl rfl ?_
    refine XS.aloadN X3.here hexec rfl (hb hbytes d4) rfl rfl ?_
    refine XS.iloadN X3.here hexec rfl (hb hbytes d5) rfl ?_
    refine XS.aloadN X3.here hexec rfl (hb hbytes d6) rfl rfl ?_
    refine iconstV X3.here hexec rfl 0 (hb hbytes d7) (by decide) ?_
    refine XS.iloadN X3.here hexec rfl (hb hbytes d8) rfl ?_
    exact Steps.refl _)
  obtain ⟨v6, T6, X6, E6, g6⟩ := X3.callS hexec (Cmp5.law l b A s.heap.size B3 o 0 len) hown (wks W (staticW U16 115 Cmp5.yN)) (wk W Cmp5.tab) (W := 0) (Nat.le_of_ble_eq_true rfl) (Nat.le_of_ble_eq_true rfl) (Nat.le_refl _) (by show 0 + len + 0 ≤ len; omega) (g := (mkF m 9 #[.val (.ref b), .val (.int (Int32.ofNat o)), .val (.int (Int32.ofNat len)), .val (.ref s.heap.size), .unset, .unset] [.int (Int32.ofNat len), .int (Int32.ofNat 0), .ref s.heap.size, .int (Int32.ofNat o), .ref b])) rfl (by rw [hml]; rfl) c5 (argsL := [.ref b, .int (Int32.ofNat o), .ref s.heap.size, .int (Int32.ofNat 0), .int (Int32.ofNat len)]) (rest := []) rfl rfl (by show 2 * 0 + 0 ≤ _; decide) (hb hbytes d9) (⟨rfl, hA3, ba3, hne, l1, by rw [bs3]; simp, hp⟩)
  obtain ⟨rfl, B6, p6, f6⟩ := E6
  have c7 : Steps p.tables e below (s₁.setTop (entryFrame m #[.ref b, .int (Int32.ofNat o), .int (Int32.ofNat len)] 6)) (T6.setTop (mkF m 12 #[.val (.ref b), .val (.int (Int32.ofNat o)), .val (.int (Int32.ofNat len)), .val (.ref s.heap.size), .unset, .unset] [.int (Int32.ofNat len)])) := g6
  have c8 : Steps p.tables e below (s₁.setTop (entryFrame m #[.ref b, .int (Int32.ofNat o), .int (Int32.ofNat len)] 6)) (T6.setTop (mkF m 58 #[.val (.ref b), .val (.int (Int32.ofNat o)), .val (.int (Int32.ofNat len)), .val (.ref s.heap.size), .val (.int (Int32.ofNat len)), .unset] [.ref s.heap.size])) := c7.trans (by
    refine XS.istore X6.here hexec rfl (hb hbytes d12) rfl rfl ?_
    refine XS.iload X6.here hexec rfl (hb hbytes d14) rfl ?_
    refine XS.iloadN X6.here hexec rfl (hb hbytes d16) rfl ?_
    refine XS.icmpYes X6.here hexec rfl (pc0 := 17) rfl (hb hbytes d17) rfl (ii_eq_t rfl) (by decide) rfl ?_
    refine XS.aloadN X6.here hexec rfl (hb hbytes d57) rfl rfl ?_
    exact Steps.refl _)
  have X8 := X6.wide (L' := []) (cells' := 1) (slots' := len) (fun x hx hlt => by
    simp only [List.nil_append, copyLocs, List.mem_map, List.mem_range] at hx
    obtain ⟨i, -, rfl⟩ := hx
    exact absurd hlt (Nat.lt_irrefl _)) (Nat.le_refl _) (by omega)
  exact ⟨T6, some (.ref s.heap.size), _, _, _, X8, rfl, rfl, rfl, (fun h => by cases h), ⟨⟨rfl, B6, ba3.like (X3.warmed.alike.symm.trans X6.warmed.alike) p6.1 f6.1 f6.2.1 f6.2.2.1, f6.2.1.trans bv3, by rw [X6.warmed.alike.findClass, f6.1]; exact bf3, by rw [f6.2.2.1, bs3]; simp, fun j hj => by rw [f6.2.2.2 j, if_pos (by omega)]; rfl, kp3.put p6 (Nat.le_refl _)⟩, by rw [p6.2.2, bh3, hh0]; simp⟩, fun fs hl => c8.trans (X8.areturnOut hexec rfl hret rfl (hb hbytes d58) hl)⟩
end Cmp3
namespace CodL
def yN : MethodName := ⟨"java/lang/StringUTF16", "coderFromArrayLen", "([BI)B"⟩
abbrev yB : ByteArray := jdk_52_method_15_code
theorem d0 : decode yB 0 = .ok (.iload_n 1, 1) := by decide +kernel
theorem d1 : decode yB 1 = .ok (.aload_n 0, 1) := by decide +kernel
theorem d2 : decode yB 2 = .ok (.arraylength, 1) := by decide +kernel
theorem d3 : decode yB 3 = .ok (.isub, 1) := by decide +kernel
theorem d4 : decode yB 4 = .ok (.bipush 31, 2) := by decide +kernel
theorem d6 : decode yB 6 = .ok (.iushr, 1) := by decide +kernel
theorem d7 : decode yB 7 = .ok (.i2b, 1) := by decide +kernel
theorem d8 : decode yB 8 = .ok (.ireturn, 1) := by decide +kernel
def site : List Cond := []
def tab : Cond := tabOf yN yB 2 (some .byte) site
def P (d : Addr) (B : Cell) (args : Array Value) (s : State) : Prop := args = #[.ref d, .int (Int32.ofNat B.slots.size)] ∧ Arr .byte d B s
def E (r : Option Value) (s u : State) : Prop := XT.PureE (some (.int 0)) r s u
/-- an array as long as the number of chars: LATIN1 -/
theorem law (l : Launch) (d : Addr) (B : Cell) : Law l yN 2 2 0 0 yB 2 (some .byte) site (P d B) E [] 0 0 := by
  refine Law.of_walk (plainFor_of_name (by decide +kernel)) (by decide +kernel) (by decide +kernel) (by decide) (fun _ _ h => by rw [h.1]; rfl) (fun _ U U' hal hh h => ⟨h.1, h.2.mv hal hh⟩) (fun r U U' V V' h1 hal h2 h => XT.PureE.mv r U U' V V' h1 hal h2 h) ?_
  intro p e s m args below meth c s₁ X0 hexec hbytes hml hret hlk hnm hown hh0 W hP
  obtain ⟨rfl, hB⟩ := hP
  have hB0 := hB.mv X0.warmed.alike hh0
  have c1 : Steps p.tables e below (s₁.setTop (entryFrame m #[.ref d, .int (Int32.ofNat B.slots.size)] 2)) (s₁.setTop (mkF m 0 #[.val (.ref d), .val (.int (Int32.ofNat B.slots.size))] [])) := entry rfl
  have c2 : Steps p.tables e below (s₁.setTop (entryFrame m #[.ref d, .int (Int32.ofNat B.slots.size)] 2)) (s₁.setTop (mkF m 2 #[.val (.ref d), .val (.int (Int32.ofNat B.slots.size))] [.ref d, .int (Int32.ofNat B.slots.size)])) := c1.trans (by
    refine XS.iloadN X0.here hexec rfl (hb hbytes d0) rfl ?_
    refine XS.aloadN X0.here hexec rfl (hb hbytes d1) rfl rfl ?_
    exact Steps.refl _)
  have c3 : Steps p.tables e below (s₁.setTop (entryFrame m #[.ref d, .int (Int32.ofNat B.slots.size)] 2)) (s₁.setTop (mkF m 8 #[.val (.ref d), .val (.int (Int32.ofNat B.slots.size))] [.int (lo8 (ushr (Int32.ofNat B.slots.size - Int32.ofNat B.slots.size) 31))])) := c2.trans (by
    refine X0.alen hexec hB0 rfl rfl (hb hbytes d2) ?_
    refine XS.isub X0.here hexec rfl (hb hbytes d3) rfl ?_
    refine bipushV X0.here hexec rfl 31 (hb hbytes d4) (by decide) ?_
    refine iushr X0.here hexec rfl (hb hbytes d6) rfl ?_
    refine i2b X0.here hexec rfl (hb hbytes d7) rfl ?_
    exact Steps.refl _)
  have e0 : lo8 (ushr (Int32.ofNat B.slots.size - Int32.ofNat B.slots.size) 31) = 0 := by rw [Int32.sub_self]; decide
  rw [e0] at c3
  exact ⟨s₁, some (.int 0), _, _, _, X0, rfl, rfl, rfl, (fun h => by cases h), ⟨rfl, hh0⟩, fun fs hl => c3.trans (X0.ireturnOut hexec hret rfl (Or.inr (Or.inr (Or.inl rfl))) (hb hbytes d8) hl)⟩
end CodL
/-- the String at a is Latin-1 over a new byte[] (the heap's one new cell): the low bytes of the len chars of A from o on; every cell but a is kept -/
def Got (a : Addr) (D : Cell) (fV fC : Field) (A : Cell) (o len : Nat) (r : Option Value) (s u : State) : Prop := r = none ∧ ∃ D' V : Cell, Blank "java/lang/String" a D' u ∧ Same D D' [fV.slot, fC.slot] ∧ D'.slots[fV.slot]? = some (.ref s.heap.size) ∧ D'.slots[fC.slot]? = some (.int 0) ∧ Arr .byte s.heap.size V u ∧ V.vm = .none ∧ u.vm.findClass "[B" = some V.cls ∧ V.slots.size = len ∧ (∀ j, j < len → V.slots[j]? = some (.int (lo8 (cv A (o + j))))) ∧ (∀ (y : Addr) (c : Cell), y ≠ a → s.heap[y]? = some c → u.heap[y]? = some c) ∧ u.heap.size = s.heap.size + 1
theorem Got.mv {a : Addr} {D A : Cell} {fV fC : Field} {o len : Nat} : ∀ r (U U' V V' : State), U'.heap = U.heap → V.vm.Alike V'.vm → V'.heap = V.heap → Got a D fV fC A o len r U V → Got a D fV fC A o len r U' V' :=
  fun r U U' V V' h1 hal h2 ⟨e0, D', X, a1, a2, a3, a4, a5, a6, a7, a8, a9, a10, a11⟩ => ⟨e0, D', X, a1.mv hal h2, a2, by rw [h1]; exact a3, a4, by rw [h1]; exact a5.mv hal h2, a6, by rw [hal.findClass]; exact a7, a8, a9, by rw [h1, h2]; exact a10, by rw [h1, h2]; exact a11⟩
namespace New4
def yN : MethodName := ⟨"java/lang/String", "<init>", "([CIILjava/lang/Void;)V"⟩
abbrev yB : ByteArray := jdk_42_method_149_code
theorem d0 : decode yB 0 = .ok (.aload_n 0, 1) := by decide +kernel
theorem d1 : decode yB 1 = .ok (.invokespecial 1, 3) := by decide +kernel
theorem d4 : decode yB 4 = .ok (.iload_n 3, 1) := by decide +kernel
theorem d5 : decode yB 5 = .ok (.ifCond (.ne) 22, 3) := by decide +kernel
theorem d27 : decode yB 27 = .ok (.getstatic 38, 3) := by decide +kernel
theorem d30 : decode yB 30 = .ok (.ifCond (.eq) 28, 3) := by decide +kernel
theorem d33 : decode yB 33 = .ok (.aload_n 1, 1) := by decide +kernel
theorem d34 : decode yB 34 = .ok (.iload_n 2, 1) := by decide +kernel
theorem d35 : decode yB 35 = .ok (.iload_n 3, 1) := by decide +kernel
theorem d36 : decode yB 36 = .ok (.invokestatic 177, 3) := by decide +kernel
theorem d39 : decode yB 39 = .ok (.astore 5, 2) := by decide +kernel
theorem d41 : decode yB 41 = .ok (.aload_n 0, 1) := by decide +kernel
theorem d42 : decode yB 42 = .ok (.aload 5, 2) := by decide +kernel
theorem d44 : decode yB 44 = .ok (.iload_n 3, 1) := by decide +kernel
theorem d45 : decode yB 45 = .ok (.invokestatic 47, 3) := by decide +kernel
theorem d48 : decode yB 48 = .ok (.putfield 15, 3) := by decide +kernel
theorem d51 : decode yB 51 = .ok (.aload_n 0, 1) := by decide +kernel
theorem d52 : decode yB 52 = .ok (.aload 5, 2) := by decide +kernel
theorem d54 : decode yB 54 = .ok (.putfield 9, 3) := by decide +kernel
theorem d57 : decode yB 57 = .ok (.return_, 1) := by decide +kernel
def site : List Cond := [.fieldLink "java/lang/String" 38 "java/lang/String" "COMPACT_STRINGS" "Z", Cmp3.tab, CodL.tab, .laysFinal "java/lang/String" "java/lang/String" "value" "[B", .fieldLink "java/lang/String" 9 "java/lang/String" "value" "[B", .laysFinal "java/lang/String" "java/lang/String" "coder" "B", .fieldLink "java/lang/String" 15 "java/lang/String" "coder" "B"] ++ objW "java/lang/String" 1 ++ staticW "java/lang/String" 177 Cmp3.yN ++ staticW "java/lang/String" 47 CodL.yN
def tab : Cond := tabOf yN yB 6 none site
def P (a : Addr) (D : Cell) (fV fC : Field) (b : Addr) (A : Cell) (z : Int32) (o len : Nat) (args : Array Value) (s : State) : Prop := args = #[.ref a, .ref b, .int (Int32.ofNat o), .int (Int32.ofNat len), .null] ∧ Blank "java/lang/String" a D s ∧ Found "java/lang/String" "value" "[B" fV s ∧ Found "java/lang/String" "coder" "B" fC s ∧ Ch b A s ∧ StaticIs s "java/lang/String" "COMPACT_STRINGS" "Z" (.int z) ∧ ¬ z = 0 ∧ 0 < len ∧ o + len ≤ A.slots.size ∧ len ≤ 536870912 ∧ ∀ i, i < len → ¬ 255 < cv A (o + i)
def E (a : Addr) (D : Cell) (fV fC : Field) (A : Cell) (o len : Nat) (r : Option Value) (s u : State) : Prop := Got a D fV fC A o len r s u
/-- len > 0, no char of the range above 255: a Latin-1 String of their low bytes -/
theorem law (l : Launch) (a : Addr) (D : Cell) (fV fC : Field) (b : Addr) (A : Cell) (z : Int32) (o len : Nat) : Law l yN 5 4 2 35 yB 6 none site (P a D fV fC b A z o len) (E a D fV fC A o len) [⟨a, fC.slot⟩, ⟨a, fV.slot⟩] 1 len := by
  refine Law.of_walk (plainFor_of_name (by decide +kernel)) (by decide +kernel) (by decide +kernel) (by decide) (fun _ _ h => by rw [h.1]; rfl) (fun _ U U' hal hh h => ⟨h.1, h.2.1.mv hal hh, h.2.2.1.al hal, h.2.2.2.1.al hal, h.2.2.2.2.1.mv hal hh, h.2.2.2.2.2.1.there hal hh, h.2.2.2.2.2.2⟩) (fun r U U' V V' h1 hal h2 h => Got.mv r U U' V V' h1 hal h2 h) ?_
  intro p e s m args below meth c s₁ X0 hexec hbytes hml hret hlk hnm hown hh0 W hP
  obtain ⟨rfl, hB, f1, f2, hA, s1, hz, l0, l1, l2, hp⟩ := hP
  have a31 := hA.1.2.2.2
  have c1 : Steps p.tables e below (s₁.setTop (entryFrame m #[.ref a, .ref b, .int (Int32.ofNat o), .int (Int32.ofNat len), .null] 6)) (s₁.setTop (mkF m 0 #[.val (.ref a), .val (.ref b), .val (.int (Int32.ofNat o)), .val (.int (Int32.ofNat len)), .val .null, .unset] [])) := entry rfl
  have c2 : Steps p.tables e below (s₁.setTop (entryFrame m #[.ref a, .ref b, .int (Int32.ofNat o), .int (Int32.ofNat len), .null] 6)) (s₁.setTop (mkF m 1 #[.val (.ref a), .val (.ref b), .val (.int (Int32.ofNat o)), .val (.int (Int32.ofNat len)), .val .null, .unset] [.ref a])) := c1.trans (by
    refine XS.aloadN X0.here hexec rfl (hb hbytes d0) rfl rfl ?_
    exact Steps.refl _)
  obtain ⟨T3, X3, q3, st3⟩ := X0.oinit hexec hown (wks W (objW "java/lang/String" 1)) (g := (mkF m 1 #[.val (.ref a), .val (.ref b), .val (.int (Int32.ofNat o)), .val (.int (Int32.ofNat len)), .val .null, .unset] [.ref a])) rfl (by rw [hml]; rfl) (rest := []) rfl (hb hbytes d1) (W := 0) (by show 2 * 0 + 0 ≤ _; decide) (Nat.le_of_ble_eq_true rfl) (Nat.le_of_ble_eq_true rfl)
  have hh3 := q3.trans hh0
  have c4 : Steps p.tables e below (s₁.setTop (entryFrame m #[.ref a, .ref b, .int (Int32.ofNat o), .int (Int32.ofNat len), .null] 6)) (T3.setTop (mkF m 27 #[.val (.ref a), .val (.ref b), .val (.int (Int32.ofNat o)), .val (.int (Int32.ofNat len)), .val .null, .unset] [])) := (c2.trans (st3 _ (Steps.refl _))).trans (by
    refine XS.iloadN X3.here hexec rfl (hb hbytes d4) rfl ?_
    refine XS.ifYes X3.here hexec rfl (pc0 := 5) rfl (hb hbytes d5) rfl (i0_ne_t (nz32 (by omega) l0)) (by decide) rfl ?_
    exact Steps.refl _)
  obtain ⟨T5, X5, q5, st5⟩ := X3.sget hexec hown (wk W (.fieldLink "java/lang/String" 38 "java/lang/String" "COMPACT_STRINGS" "Z")) s1 (fun _ _ h => by rw [hh3]; exact h) (g := (mkF m 27 #[.val (.ref a), .val (.ref b), .val (.int (Int32.ofNat o)), .val (.int (Int32.ofNat len)), .val .null, .unset] [])) rfl (hb hbytes d27)
  have hh5 := q5.trans hh3
  have c6 : Steps p.tables e below (s₁.setTop (entryFrame m #[.ref a, .ref b, .int (Int32.ofNat o), .int (Int32.ofNat len), .null] 6)) (T5.setTop (mkF m 30 #[.val (.ref a), .val (.ref b), .val (.int (Int32.ofNat o)), .val (.int (Int32.ofNat len)), .val .null, .unset] [.int z])) := c4.trans (st5 _ (Steps.refl _))
  have c7 : Steps p.tables e below (s₁.setTop (entryFrame m #[.ref a, .ref b, .int (Int32.ofNat o), .int (Int32.ofNat len), .null] 6)) (T5.setTop (mkF m 36 #[.val (.ref a), .val (.ref b), .val (.int (Int32.ofNat o)), .val (.int (Int32.ofNat len)), .val .null, .unset] [.int (Int32.ofNat len), .int (Int32.ofNat o), .ref b])) := c6.trans (by
    refine XS.ifNo X5.here hexec rfl (hb hbytes d30) rfl (i0_eq_f hz) ?_
    refine XS.aloadN X5.here hexec rfl (hb hbytes d33) rfl rfl ?_
    refine XS.iloadN X5.here hexec rfl (hb hbytes d34) rfl ?_
    refine XS.iloadN X5.here hexec rfl (hb hbytes d35) rfl ?_
    exact Steps.refl _)
  obtain ⟨v8, T8, X8, E8, g8⟩ := X5.callS hexec (Cmp3.law l b A o len) hown (wks W (staticW "java/lang/String" 177 Cmp3.yN)) (wk W Cmp3.tab) (W := 0) (Nat.le_of_ble_eq_true rfl) (Nat.le_of_ble_eq_true rfl) (Nat.le_refl _) (by show 0 + len ≤ len; omega) (g := (mkF m 36 #[.val (.ref a), .val (.ref b), .val (.int (Int32.ofNat o)), .val (.int (Int32.ofNat len)), .val .null, .unset] [.int (Int32.ofNat len), .int (Int32.ofNat o), .ref b])) rfl (by rw [hml]; rfl) c7 (argsL := [.ref b, .int (Int32.ofNat o), .int (Int32.ofNat len)]) (rest := []) rfl rfl (by show 2 * 0 + 0 ≤ _; decide) (hb hbytes d36) (⟨rfl, hA.mv X5.warmed.alike hh5, l1, l2, hp⟩)
  obtain ⟨e8, z8⟩ := E8
  obtain ⟨rfl, N, n1, n2, n3, n4, n5, n6⟩ := NewArr.mv _ T5 s _ _ hh5.symm (Vm.Alike.refl _) rfl e8
  rw [hh5] at z8
  have hB1 := hB.keep X8.warmed.alike (n6 _ _ hB.1)
  have hne : s.heap.size ≠ a := (Nat.ne_of_lt (Array.getElem?_eq_some_iff.mp hB.1).1).symm
  have c9 : Steps p.tables e below (s₁.setTop (entryFrame m #[.ref a, .ref b, .int (Int32.ofNat o), .int (Int32.ofNat len), .null] 6)) (T8.setTop (mkF m 39 #[.val (.ref a), .val (.ref b), .val (.int (Int32.ofNat o)), .val (.int (Int32.ofNat len)), .val .null, .unset] [.ref s.heap.size])) := g8
  have c10 : Steps p.tables e below (s₁.setTop (entryFrame m #[.ref a, .ref b, .int (Int32.ofNat o), .int (Int32.ofNat len), .null] 6)) (T8.setTop (mkF m 45 #[.val (.ref a), .val (.ref b), .val (.int (Int32.ofNat o)), .val (.int (Int32.ofNat len)), .val .null, .val (.ref s.heap.size)] [.int (Int32.ofNat N.slots.size), .ref s.heap.size, .ref a])) := by
    have hc : Steps p.tables e below (s₁.setTop (entryFrame m #[.ref a, .ref b, .int (Int32.ofNat o), .int (Int32.ofNat len), .null] 6)) (T8.setTop (mkF m 45 #[.val (.ref a), .val (.ref b), .val (.int (Int32.ofNat o)), .val (.int (Int32.ofNat len)), .val .null, .val (.ref s.heap.size)] [.int (Int32.ofNat len), .ref s.heap.size, .ref a])) := c9.trans (by
      refine XS.astore X8.here hexec rfl (hb hbytes d39) rfl rfl rfl ?_
      refine XS.aloadN X8.here hexec rfl (hb hbytes d41) rfl rfl ?_
      refine XS.aload X8.here hexec rfl (hb hbytes d42) rfl rfl ?_
      refine XS.iloadN X8.here hexec rfl (hb hbytes d44) rfl ?_
      exact Steps.refl _)
    rw [n4]; exact hc
  obtain ⟨v11, T11, X11, E11, g11⟩ := X8.callS hexec (CodL.law l s.heap.size N) hown (wks W (staticW "java/lang/String" 47 CodL.yN)) (wk W CodL.tab) (W := 1) (Nat.le_of_ble_eq_true rfl) (Nat.le_of_ble_eq_true rfl) (Nat.le_refl _) (by show 0 + len + 0 ≤ len; omega) (g := (mkF m 45 #[.val (.ref a), .val (.ref b), .val (.int (Int32.ofNat o)), .val (.int (Int32.ofNat len)), .val .null, .val (.ref s.heap.size)] [.int (Int32.ofNat N.slots.size), .ref s.heap.size, .ref a])) rfl (by rw [hml]; rfl) c10 (argsL := [.ref s.heap.size, .int (Int32.ofNat N.slots.size)]) (rest := [.ref a]) rfl rfl (by show 2 * 0 + (1 + 0) ≤ _; decide) (hb hbytes d45) (⟨rfl, n1⟩)
  obtain ⟨rfl, q11⟩ := E11
  have hB11 := hB1.mv (X8.warmed.alike.symm.trans X11.warmed.alike) q11
  have c12 : Steps p.tables e below (s₁.setTop (entryFrame m #[.ref a, .ref b, .int (Int32.ofNat o), .int (Int32.ofNat len), .null] 6)) (T11.setTop (mkF m 48 #[.val (.ref a), .val (.ref b), .val (.int (Int32.ofNat o)), .val (.int (Int32.ofNat len)), .val .null, .val (.ref s.heap.size)] [.int 0, .ref a])) := g11
  obtain ⟨T13, X13, p13, bl13, sl13, st13⟩ := X11.finit hexec hown (wk W (.fieldLink "java/lang/String" 15 "java/lang/String" "coder" "B")) (Or.inr ⟨_, (wk W (.laysFinal "java/lang/String" "java/lang/String" "coder" "B"))⟩) (Or.inl ⟨rfl, hnm⟩) f2 (Or.inl rfl) hB11 (t := .byte) (by decide +kernel) rfl (g := (mkF m 48 #[.val (.ref a), .val (.ref b), .val (.int (Int32.ofNat o)), .val (.int (Int32.ofNat len)), .val .null, .val (.ref s.heap.size)] [.int 0, .ref a])) rfl (rest := []) rfl (hb hbytes d48)
  have c14 : Steps p.tables e below (s₁.setTop (entryFrame m #[.ref a, .ref b, .int (Int32.ofNat o), .int (Int32.ofNat len), .null] 6)) (T13.setTop (mkF m 54 #[.val (.ref a), .val (.ref b), .val (.int (Int32.ofNat o)), .val (.int (Int32.ofNat len)), .val .null, .val (.ref s.heap.size)] [.ref s.heap.size, .ref a])) := (c12.trans (st13 _ (Steps.refl _))).trans (by
    refine XS.aloadN X13.here hexec rfl (hb hbytes d51) rfl rfl ?_
    refine XS.aload X13.here hexec rfl (hb hbytes d52) rfl rfl ?_
    exact Steps.refl _)
  obtain ⟨T15, X15, p15, bl15, sl15, st15⟩ := X13.finit hexec hown (wk W (.fieldLink "java/lang/String" 9 "java/lang/String" "value" "[B")) (Or.inr ⟨_, (wk W (.laysFinal "java/lang/String" "java/lang/String" "value" "[B"))⟩) (Or.inl ⟨rfl, hnm⟩) f1 (Or.inl rfl) bl13 (t := (.array .byte)) (by decide +kernel) rfl (g := (mkF m 54 #[.val (.ref a), .val (.ref b), .val (.int (Int32.ofNat o)), .val (.int (Int32.ofNat len)), .val .null, .val (.ref s.heap.size)] [.ref s.heap.size, .ref a])) rfl (rest := []) rfl (hb hbytes d54)
  have c16 : Steps p.tables e below (s₁.setTop (entryFrame m #[.ref a, .ref b, .int (Int32.ofNat o), .int (Int32.ofNat len), .null] 6)) (T15.setTop (mkF m 57 #[.val (.ref a), .val (.ref b), .val (.int (Int32.ofNat o)), .val (.int (Int32.ofNat len)), .val .null, .val (.ref s.heap.size)] [])) := c14.trans (st15 _ (Steps.refl _))
  have ap := apart (Or.inr ⟨_, (wk W (.laysFinal "java/lang/String" "java/lang/String" "value" "[B"))⟩) (Or.inr ⟨_, (wk W (.laysFinal "java/lang/String" "java/lang/String" "coder" "B"))⟩) f1 f2 (t₁ := .array .byte) (t₂ := .byte) (by decide +kernel) (by decide +kernel) (by decide)
  have al := X8.warmed.alike.symm.trans X15.warmed.alike
  have n7 : T11.heap[s.heap.size]? = some N := by rw [q11]; exact n1.1
  exact ⟨T15, none, _, _, _, X15, by simp, rfl, by omega, (fun _ => rfl), ⟨rfl, _, N, bl15, ((Same.refl D _).set _ (by simp)).set _ (by simp), sl15, (Cell.slots_setSlot_ne _ ap).trans sl13, n1.keep al (p15.other hne (p13.other hne n7)), n2, by rw [al.findClass]; exact n3, n4, n5, fun y c h1 h2 => p15.other h1 (p13.other h1 (by rw [q11]; exact n6 y c h2)), by rw [p15.2.2, p13.2.2, q11]; exact z8⟩, fun fs hl => c16.trans (X15.returnOut hexec hret (hb hbytes d57) hl)⟩
end New4
namespace New1
def yN : MethodName := ⟨"java/lang/String", "<init>", "([C)V"⟩
abbrev yB : ByteArray := jdk_42_method_3_code
theorem d0 : decode yB 0 = .ok (.aload_n 0, 1) := by decide +kernel
theorem d1 : decode yB 1 = .ok (.aload_n 1, 1) := by decide +kernel
theorem d2 : decode yB 2 = .ok (.iconst 0, 1) := by decide +kernel
theorem d3 : decode yB 3 = .ok (.aload_n 1, 1) := by decide +kernel
theorem d4 : decode yB 4 = .ok (.arraylength, 1) := by decide +kernel
theorem d5 : decode yB 5 = .ok (.aconst_null, 1) := by decide +kernel
theorem d6 : decode yB 6 = .ok (.invokespecial 27, 3) := by decide +kernel
theorem d9 : decode yB 9 = .ok (.return_, 1) := by decide +kernel
def site : List Cond := [New4.tab] ++ initW "java/lang/String" 27 New4.yN
def tab : Cond := tabOf yN yB 2 none site
def P (a : Addr) (D : Cell) (fV fC : Field) (b : Addr) (A : Cell) (z : Int32) (args : Array Value) (s : State) : Prop := args = #[.ref a, .ref b] ∧ Blank "java/lang/String" a D s ∧ Found "java/lang/String" "value" "[B" fV s ∧ Found "java/lang/String" "coder" "B" fC s ∧ Ch b A s ∧ StaticIs s "java/lang/String" "COMPACT_STRINGS" "Z" (.int z) ∧ ¬ z = 0 ∧ 0 < A.slots.size ∧ A.slots.size ≤ 536870912 ∧ ∀ i, i < A.slots.size → ¬ 255 < cv A i
def E (a : Addr) (D : Cell) (fV fC : Field) (A : Cell) (r : Option Value) (s u : State) : Prop := Got a D fV fC A 0 A.slots.size r s u
/-- new String(chars), not empty, no char above 255: a Latin-1 String of their low bytes -/
theorem law (l : Launch) (a : Addr) (D : Cell) (fV fC : Field) (b : Addr) (A : Cell) (z : Int32) : Law l yN 2 1 3 52 yB 2 none site (P a D fV fC b A z) (E a D fV fC A) [⟨a, fC.slot⟩, ⟨a, fV.slot⟩] 1 A.slots.size := by
  refine Law.of_walk (plainFor_of_name (by decide +kernel)) (by decide +kernel) (by decide +kernel) (by decide) (fun _ _ h => by rw [h.1]; rfl) (fun _ U U' hal hh h => ⟨h.1, h.2.1.mv hal hh, h.2.2.1.al hal, h.2.2.2.1.al hal, h.2.2.2.2.1.mv hal hh, h.2.2.2.2.2.1.there hal hh, h.2.2.2.2.2.2⟩) (fun r U U' V V' h1 hal h2 h => Got.mv r U U' V V' h1 hal h2 h) ?_
  intro p e s m args below meth c s₁ X0 hexec hbytes hml hret hlk hnm hown hh0 W hP
  obtain ⟨rfl, hB, f1, f2, hA, s1, hz, l0, l2, hp⟩ := hP
  have c1 : Steps p.tables e below (s₁.setTop (entryFrame m #[.ref a, .ref b] 2)) (s₁.setTop (mkF m 0 #[.val (.ref a), .val (.ref b)] [])) := entry rfl
  have c2 : Steps p.tables e below (s₁.setTop (entryFrame m #[.ref a, .ref b] 2)) (s₁.setTop (mkF m 6 #[.val (.ref a), .val (.ref b)] [.null, .int (Int32.ofNat A.slots.size), .int 0, .ref b, .ref a])) := c1.trans (by
    refine XS.aloadN X0.here hexec rfl (hb hbytes d0) rfl rfl ?_
    refine XS.aloadN X0.here hexec rfl (hb hbytes d1) rfl rfl ?_
    refine iconstV X0.here hexec rfl 0 (hb hbytes d2) (by decide) ?_
    refine XS.aloadN X0.here hexec rfl (hb hbytes d3) rfl rfl ?_
    refine X0.alen hexec (hA.1.mv X0.warmed.alike hh0) rfl rfl (hb hbytes d4) ?_
    refine XS.aconstNull X0.here hexec rfl (hb hbytes d5) ?_
    exact Steps.refl _)
  obtain ⟨v3, T3, X3, E3, g3⟩ := X0.callN hexec (New4.law l a D fV fC b A z 0 A.slots.size) rfl hown (wks W (initW "java/lang/String" 27 New4.yN)) (W New4.tab (by simp only [site, List.mem_cons, List.mem_append, true_or, or_true])) (W := 0) (Nat.le_of_ble_eq_true rfl) (Nat.le_of_ble_eq_true rfl) (Nat.le_refl _) (by show 0 + A.slots.size ≤ A.slots.size; omega) (g := (mkF m 6 #[.val (.ref a), .val (.ref b)] [.null, .int (Int32.ofNat A.slots.size), .int (Int32.ofNat 0), .ref b, .ref a])) rfl (by rw [hml]; rfl) c2 (argsL := [.ref b, .int (Int32.ofNat 0), .int (Int32.ofNat A.slots.size), .null]) (rest := []) rfl rfl (by show 2 * 0 + 0 ≤ _; decide) (hb hbytes d6) (⟨rfl, hB.mv X0.warmed.alike hh0, f1.al X0.warmed.alike, f2.al X0.warmed.alike, hA.mv X0.warmed.alike hh0, s1.there X0.warmed.alike hh0, hz, l0, by omega, l2, fun i hi => by rw [Nat.zero_add]; exact hp i hi⟩)
  have e0 := Got.mv _ s₁ s _ _ hh0.symm (Vm.Alike.refl _) rfl E3
  obtain rfl := e0.1
  have c4 : Steps p.tables e below (s₁.setTop (entryFrame m #[.ref a, .ref b] 2)) (T3.setTop (mkF m 9 #[.val (.ref a), .val (.ref b)] [])) := g3
  exact ⟨T3, none, _, _, _, X3, by simp, rfl, by omega, (fun _ => rfl), e0, fun fs hl => c4.trans (X3.returnOut hexec hret (hb hbytes d9) hl)⟩
theorem pays {l : Launch} {R : Room} {p : Program} {e : Env} {below : List Frame} {s : State} {sargs : Array Value} {len W : Nat} (a : Addr) (D : Cell) (fV fC : Field) (b : Addr) (A : Cell) (z : Int32) (htab : tab.before sargs s = true) (hfr : 4 ≤ R.frames) (hlo : W + 65 ≤ R.locals) :
    Back l R p e below s sargs yN len W (fun A₁ a₁ => A₁.cells + 1 ≤ R.cells ∧ A₁.slots + A.slots.size ≤ R.slots ∧ P a D fV fC b A z a₁ A₁.U) (fun A₁ _ v₁ B₁ => E a D fV fC A v₁ A₁.U B₁.U ∧ B₁.locs = A₁.locs ++ [⟨a, fC.slot⟩, ⟨a, fV.slot⟩] ∧ B₁.cells = A₁.cells + 1 ∧ B₁.slots = A₁.slots + A.slots.size) :=
  (law l a D fV fC b A z).pays htab hfr (by omega)
end New1
/-- the byte, read back as charAt reads it, is the char -/
theorem lo8_mask {x : Int32} (h0 : ¬ x < 0) (h1 : ¬ 255 < x) : lo8 x &&& 255 = x := by
  have t : ∀ k : Fin 256, lo8 (Int32.ofNat k.val) &&& 255 = Int32.ofNat k.val := by decide +kernel
  rw [Int32.lt_iff_toInt_lt] at h0 h1
  have e0 : (0 : Int32).toInt = 0 := rfl
  have e1 : (255 : Int32).toInt = 255 := rfl
  obtain ⟨k, hk⟩ : ∃ k : Nat, x.toInt = k := ⟨x.toInt.toNat, by omega⟩
  have hx : x = Int32.ofNat k := Int32.toInt_inj.mp (by rw [hk, Int32.toInt_ofNat_small (by omega)])
  rw [hx]
  exact t ⟨k, by omega⟩
end StrChars
namespace StrChars.Road
open Jvm Sem ClassFile Op Lib Jvm.Stand Jvm.Free Jvm.Free.XT
open Jvm.Lib.Cold (StaticIs)
abbrev ST : String := "java/lang/String"
/-- every table word that New1's law asks, flat -/
abbrev words : List Jvm.Cond := [.code New1.yN New1.yB 2 none, .initialized ST, .methodLink ST 27 New4.yN, .instanceMethod New4.yN,
  .code New4.yN New4.yB 6 none, .fieldLink ST 38 ST "COMPACT_STRINGS" "Z", .laysFinal ST ST "value" "[B", .fieldLink ST 9 ST "value" "[B", .laysFinal ST ST "coder" "B", .fieldLink ST 15 ST "coder" "B",
  .methodLink ST 1 Lib.objectInit, .instanceMethod Lib.objectInit, .code Lib.objectInit ⟨#[0xb1]⟩ 1 none, .methodLink ST 177 Cmp3.yN, .static Cmp3.yN, .methodLink ST 47 CodL.yN, .static CodL.yN,
  .code Cmp3.yN Cmp3.yB 6 (some (.array .byte)), .initialized U16, .arrayClass .byte, .methodLink U16 115 Cmp5.yN, .static Cmp5.yN, .code Cmp5.yN Cmp5.yB 7 (some .int), .code CodL.yN CodL.yB 2 (some .byte)]
theorem tab_of {a : Array Value} {s : State} (h : ∀ w ∈ words, w.before a s = true) : New1.tab.before a s = true := by
  have h5 : Cmp5.tab.before a s = true := unparts (wk h (.code Cmp5.yN Cmp5.yB 7 (some .int))) (wks h (.initialized Cmp5.yN.cls :: Cmp5.site))
  have hc : CodL.tab.before a s = true := unparts (wk h (.code CodL.yN CodL.yB 2 (some .byte))) (wks h (.initialized CodL.yN.cls :: CodL.site))
  have q5 : ∀ w ∈ Cmp5.tab :: words, w.before a s = true := fun w hw => (List.mem_cons.mp hw).elim (fun e => e ▸ h5) (h w)
  have h3 : Cmp3.tab.before a s = true := unparts (wk q5 (.code Cmp3.yN Cmp3.yB 6 (some (.array .byte)))) (wks q5 (.initialized Cmp3.yN.cls :: Cmp3.site))
  have q3 : ∀ w ∈ Cmp3.tab :: CodL.tab :: words, w.before a s = true := fun w hw => (List.mem_cons.mp hw).elim (fun e => e ▸ h3) fun hw => (List.mem_cons.mp hw).elim (fun e => e ▸ hc) (h w)
  have h4 : New4.tab.before a s = true := unparts (wk q3 (.code New4.yN New4.yB 6 none)) (wks q3 (.initialized New4.yN.cls :: New4.site))
  have q4 : ∀ w ∈ New4.tab :: words, w.before a s = true := fun w hw => (List.mem_cons.mp hw).elim (fun e => e ▸ h4) (h w)
  exact unparts (wk q4 (.code New1.yN New1.yB 2 none)) (wks q4 (.initialized New1.yN.cls :: New1.site))
/-- the words ride from the start Z to the walk's own state -/
theorem moved {Z s : State} {a0 args : Array Value} (hZ : Z.Warmed39 s.vm) (hw : ∀ d ∈ words, d.before a0 Z = true) : ∀ d ∈ words, d.before args s = true := fun d hd => by
  have q := hw d hd
  have t : ∀ d ∈ words, d = .arrayClass .byte ∨ (d.onTables && d.keepsFace) = true := by decide +kernel
  rcases t d hd with rfl | t
  · exact RoadKit.mvA hZ q
  · exact RoadKit.mv hZ q t
/-- WHAT COMES BACK, over the tables of the start Z: h the heap at the call, h' behind it -/
def Q (Z : State) (x : Addr) (A : Cell) (h : Heap) (v : Option Value) (h' : Heap) (L : List Loc) : Prop := v = none ∧ (∀ y ∈ L, y.base = x) ∧ RoadKit.Keep h h' [x] ∧ h'.size = h.size + 1 ∧ RoadKit.Exa Z h' x ST ∧ RoadKit.Fld Z h' x ST "value" "[B" (.ref h.size) ∧ RoadKit.Fld Z h' x ST "coder" "B" (.int 0) ∧
  (∃ V : Cell, RoadKit.Arr Z h' h.size V .byte ∧ V.vm = .none ∧ Z.vm.findClass "[B" = some V.cls ∧ V.slots.size = A.slots.size ∧ ∀ j, j < A.slots.size → V.slots[j]? = some (.int (lo8 (cv A j)))) ∧
  ∀ (O n d : String) (w : Value), RoadKit.Fld Z h x O n d w → RoadKit.slotOf Z O n d ≠ RoadKit.slotOf Z ST "value" "[B" → RoadKit.slotOf Z O n d ≠ RoadKit.slotOf Z ST "coder" "B" → RoadKit.Fld Z h' x O n d w
/-- **new String(chars) AT A CALL, IN THE ROAD'S FORM**: for specialBack behind newO: x the fresh String, b the char[] with the cell A -/
theorem back {p : Program} {l : Launch} {e : Env} {R : Room} {s : State} {args : Array Value} {below : List Frame} {len W : Nat} {Z : State} {a0 : Array Value} {h : Heap} (hZ : Z.Warmed39 s.vm) (hw : ∀ d ∈ words, d.before a0 Z = true) {kI : Nat} (wi : (Jvm.Cond.instantiable ST kI).before a0 Z = true)
    {x b : Addr} {A : Cell} {z : Int32} {v0 c0 : Value} (E : RoadKit.Exa Z h x ST) (V : RoadKit.Fld Z h x ST "value" "[B" v0) (C : RoadKit.Fld Z h x ST "coder" "B" c0) (K : RoadKit.Arr Z h b A .char) (hty : Typed .char A) (S : RoadKit.Sta Z h ST "COMPACT_STRINGS" "Z" (.int z)) (hz : ¬ z = 0)
    (l0 : 0 < A.slots.size) (l2 : A.slots.size ≤ 536870912) (hp : ∀ i, i < A.slots.size → ¬ 255 < cv A i) (hfr : 4 ≤ R.frames) (hlo : W + 65 ≤ R.locals) :
    Back l R p e below s args New1.yN len W (fun P a => a = #[.ref x, .ref b] ∧ P.U.heap = h ∧ P.cells + 1 ≤ R.cells ∧ P.slots + A.slots.size ≤ R.slots)
      (fun P _ v B => ∃ L, Q Z x A h v B.U.heap L ∧ B.locs = P.locs ++ L ∧ B.cells = P.cells + 1 ∧ B.slots = P.slots + A.slots.size) := by
  intro m meth c P g ig mk a X hg hsize hdg hW hn hp'
  obtain ⟨rfl, rfl, r1, r2⟩ := hp'
  have al : Z.vm.Alike P.U.vm := hZ.alike.trans X.warmed.alike
  obtain ⟨D, cfV, kV, iV, fV, hD, gV, stV, knV, obV, asV, slV⟩ := id V
  obtain ⟨D', cfC, kC, iC, fC, hD', gC, stC, -, -, asC, slC⟩ := id C
  cases hD.symm.trans hD'
  obtain ⟨D2, kD, e1, e2, e3, e4, e5⟩ := id E
  cases hD.symm.trans e1
  obtain ⟨c2, k2, i1, i2, i3, -⟩ := Cond.instantiable_spec wi
  cases e2.symm.trans i1
  cases e3.symm.trans i2
  obtain ⟨kU, u1, u2⟩ := al.2.2 _ _ e3
  have hB : Blank ST x D P.U := ⟨hD, ⟨knV, fun q hq => by rw [hq] at obV; cases obV⟩, by rw [al.findClass]; exact e2, kU, u1, by rw [u2]; exact i3, by rw [u2]; exact e5 i3⟩
  have F1 : Found ST "value" "[B" fV P.U := ⟨SBG.found_only al ⟨cfV, kV, iV, gV⟩, stV⟩
  have F2 : Found ST "coder" "B" fC P.U := ⟨SBG.found_only al ⟨cfC, kC, iC, gC⟩, stC⟩
  have hA : Ch b A P.U := ⟨⟨K.1, State.isArrayOf_alike al K.2.1, K.2.2, by omega⟩, hty⟩
  have hS : StaticIs P.U ST "COMPACT_STRINGS" "Z" (.int z) := by
    obtain ⟨cfS, iS, kS, fS, st, cS, t1, t2, t3, t4, t5, t6, t7⟩ := S
    exact StaticIs.there (s := { Z with heap := P.U.heap }) ⟨cfS, iS, kS, fS, st, cS, t1, t2, t3, t4, t5, (fun q => by rw [q] at t6; cases t6), t7⟩ al rfl
  obtain ⟨v, B, X', ⟨⟨hv, E', V', q1, q2, q3, q4, q5, q6, q7, q8, q9, q10, q11⟩, hl, hc, hs⟩, st⟩ := New1.pays x D fV fC b A z (tab_of (moved hZ hw)) hfr hlo m meth c P g ig mk _ X hg hsize hdg hW hn ⟨r1, r2, rfl, hB, F1, F2, hA, hS, hz, l0, l2, hp⟩
  have al' : Z.vm.Alike B.U.vm := hZ.alike.trans X'.warmed.alike
  have hsz : E'.slots.size = D.slots.size := by
    obtain ⟨-, -, -, kB, w1, w2, w3⟩ := q1
    obtain ⟨kB', y1, y2⟩ := al'.2.2 _ _ e3
    rw [q2.2.1] at w1
    cases w1.symm.trans y1
    rw [w3, e5 i3, y2]
  refine ⟨v, B, X', ⟨_, ⟨hv, ?_, ⟨by omega, fun y cy hy hn' => q10 y cy (by simpa using hn') hy, fun y cy hy => ?_⟩, q11, ⟨E', _, q1.1, by rw [q2.2.1]; exact e2, by rw [q2.2.1]; exact e3, by rw [q2.1]; exact obV, fun _ => by rw [hsz]; exact e5 i3⟩,
    ⟨E', cfV, kV, iV, fV, q1.1, gV, stV, by rw [q2.1]; exact knV, by rw [q2.1]; exact obV, by rw [q2.2.1]; exact asV, q3⟩, ⟨E', cfC, kC, iC, fC, q1.1, gC, stC, by rw [q2.1]; exact knV, by rw [q2.1]; exact obV, by rw [q2.2.1]; exact asC, q4⟩,
    ⟨V', ⟨q5.1, State.isArrayOf_alike al'.symm q5.2.1, q5.2.2.1⟩, q6, by rw [← al'.findClass]; exact q7, q8, fun j hj => by have := q9 j hj; rwa [Nat.zero_add] at this⟩, fun O n d w F n1 n2 => ?_⟩, hl, hc, hs⟩, st⟩
  · intro y hy
    simp only [List.mem_cons, List.not_mem_nil, or_false] at hy
    rcases hy with rfl | rfl <;> rfl
  · by_cases q : y = x
    · subst q
      cases hD.symm.trans hy
      exact ⟨E', q1.1, q2.2.1, q2.1, hsz⟩
    · exact ⟨cy, q10 y cy q hy, rfl, rfl, rfl⟩
  · obtain ⟨D3, cf, k, i, f, g1, g2, g3, g4, g5, g6, g7⟩ := F
    cases hD.symm.trans g1
    simp only [RoadKit.slotOf, g2, gV, gC, Option.map_some, Option.getD_some] at n1 n2
    exact ⟨E', cf, k, i, f, q1.1, g2, g3, by rw [q2.1]; exact g4, by rw [q2.1]; exact g5, by rw [q2.2.1]; exact g6, by rw [q2.2.2 f.slot (by simp [n1, n2])]; exact g7⟩
end StrChars.Road
namespace StrChars.Road
open Jvm Sem ClassFile Op Lib Jvm.Stand Jvm.Free Jvm.Free.XT
/-- WHAT COMES BACK, the byte[] as a list of values -/
def QA (Z : State) (x : Addr) (zn : Int32) (cs : List Int32) (h : Heap) (v : Option Value) (h' : Heap) (L : List Loc) : Prop := v = none ∧ (∀ y ∈ L, y.base = x) ∧ RoadKit.Keep h h' [x] ∧ h'.size = h.size + 1 ∧ RoadKit.Exa Z h' x ST ∧ RoadKit.Fld Z h' x ST "value" "[B" (.ref h.size) ∧ RoadKit.Fld Z h' x ST "coder" "B" (.int 0) ∧
  (∃ kb, Z.vm.findClass "[B" = some kb ∧ RoadKit.Arv Z h' h.size kb .byte zn (cs.map fun c => .int (lo8 c)) (.int 0)) ∧
  ∀ (O n d : String) (w : Value), RoadKit.Fld Z h x O n d w → RoadKit.slotOf Z O n d ≠ RoadKit.slotOf Z ST "value" "[B" → RoadKit.slotOf Z O n d ≠ RoadKit.slotOf Z ST "coder" "B" → RoadKit.Fld Z h' x O n d w
/-- **new String(chars) AT A CALL, THE ARRAYS AS LISTS**: the char[] at b holds cs, not empty, no char above 255 -/
theorem backArv {p : Program} {l : Launch} {e : Env} {R : Room} {s : State} {args : Array Value} {below : List Frame} {len W : Nat} {Z : State} {a0 : Array Value} {h : Heap} (hZ : Z.Warmed39 s.vm) (hw : ∀ d ∈ words, d.before a0 Z = true) {kI : Nat} (wi : (Jvm.Cond.instantiable ST kI).before a0 Z = true)
    {x b : Addr} {k : ClassId} {zn z : Int32} {cs : List Int32} {dv v0 c0 : Value} (E : RoadKit.Exa Z h x ST) (V : RoadKit.Fld Z h x ST "value" "[B" v0) (C : RoadKit.Fld Z h x ST "coder" "B" c0) (K : RoadKit.Arv Z h b k .char zn (cs.map Value.int) dv) (S : RoadKit.Sta Z h ST "COMPACT_STRINGS" "Z" (.int z)) (hz : ¬ z = 0)
    (hlen : zn.toNatClampNeg = cs.length) (h0 : 0 < cs.length) (hbig : cs.length ≤ 536870912) (hall : ∀ c ∈ cs, ¬ 255 < c) (hfr : 4 ≤ R.frames) (hlo : W + 65 ≤ R.locals) :
    Back l R p e below s args New1.yN len W (fun P a => a = #[.ref x, .ref b] ∧ P.U.heap = h ∧ P.cells + 1 ≤ R.cells ∧ P.slots + cs.length ≤ R.slots)
      (fun P _ v B => ∃ L, QA Z x zn cs h v B.U.heap L ∧ B.locs = P.locs ++ L ∧ B.cells = P.cells + 1 ∧ B.slots = P.slots + cs.length) := by
  obtain ⟨A, K1, K2, K3, K4, K5, K6⟩ := K
  have e : A.slots.size = cs.length := K3.trans hlen
  have hat : ∀ (i : Nat) (hi : i < cs.length), A.slots[i]? = some (.int cs[i]) := fun i hi => by rw [K5 i (by omega)]; simp [List.getD_eq_getElem?_getD, hi]
  have hcv : ∀ (i : Nat) (hi : i < cs.length), cv A i = cs[i] := fun i hi => by unfold cv; rw [hat i hi]
  have hty : Typed .char A := fun i v hv => by
    have hi : i < A.slots.size := (Array.getElem?_eq_some_iff.mp hv).1
    have q := K5 i hi
    rw [hv] at q
    rw [Option.some.inj q]
    exact K6 i hi
  refine Back.mono (back hZ hw wi E V C K1 hty S hz (by omega) (by omega) (fun i hi => by rw [hcv i (by omega)]; exact hall _ (List.getElem_mem _)) hfr hlo) (fun P a hp => ⟨hp.1, hp.2.1, hp.2.2.1, by rw [e]; exact hp.2.2.2⟩) (fun P a v B hp hq => ?_)
  obtain ⟨L, ⟨q1, q2, q3, q4, q5, q6, q7, ⟨V', v1, v2, v3, v4, v5⟩, q9⟩, hl, hc, hs⟩ := hq
  refine ⟨L, ⟨q1, q2, q3, q4, q5, q6, q7, ⟨V'.cls, v3, V', v1, rfl, by rw [v4, e, hlen], K4, fun i hi => ?_, fun i hi => ?_⟩, q9⟩, hl, hc, by rw [hs, e]⟩
  · have hi' : i < cs.length := by omega
    rw [v5 i (by omega), hcv i hi']; simp [List.getD_eq_getElem?_getD, hi']
  · have hi' : i < cs.length := by omega
    simp only [List.getD_eq_getElem?_getD, List.getElem?_map, List.getElem?_eq_getElem hi', Option.map_some, Option.getD_some]
    exact fits_lo8 _
end StrChars.Road
namespace StrChars.Road
open Jvm Sem ClassFile Op Lib Jvm.Stand Jvm.Free Jvm.Free.XT
/-- WHAT COMES BACK, in the writer's own shape -/
def QV (Z : State) (x : Addr) (N : Int32) (bs : List Int32) (h : Heap) (n0 : Nat) (v : Option Value) (h' : Heap) (L : List Loc) : Prop := v = none ∧ RoadKit.Fr n0 L ∧ RoadKit.Keep h h' [x] ∧ RoadKit.Exa Z h' x ST ∧ RoadKit.Fld Z h' x ST "coder" "B" (.int 0) ∧
  ∃ (t : Addr) (kb : ClassId), n0 ≤ t ∧ h.size ≤ t ∧ ¬ t = x ∧ RoadKit.Fld Z h' x ST "value" "[B" (.ref t) ∧ RoadKit.Arv Z h' t kb .byte N (bs.map Value.int) (.int 0)
/-- **new String(chars) AT A CALL, FOR THE WRITER**: a char[] of n known ints, each 0 to 255 -/
theorem backV {p : Program} {l : Launch} {e : Env} {R : Room} {s : State} {args : Array Value} {below : List Frame} {len W : Nat} {Z : State} {a0 : Array Value} {h : Heap} (hZ : Z.Warmed39 s.vm) (hw : ∀ d ∈ words, d.before a0 Z = true) {kI : Nat} (wi : (Jvm.Cond.instantiable ST kI).before a0 Z = true)
    {x b : Addr} {kC : ClassId} {cs bs : List Int32} {d v0 c0 : Value} {z N : Int32} {n n0 : Nat} (hx0 : n0 ≤ x) (hh0 : n0 ≤ h.size) (E : RoadKit.Exa Z h x ST) (V : RoadKit.Fld Z h x ST "value" "[B" v0) (C : RoadKit.Fld Z h x ST "coder" "B" c0) (K : RoadKit.Arv Z h b kC .char N (cs.map Value.int) d) (S : RoadKit.Sta Z h ST "COMPACT_STRINGS" "Z" (.int z)) (hz : ¬ z = 0)
    (hn : cs.length = n) (hN : N = Int32.ofNat n) (l0 : 0 < n) (l2 : n ≤ 4000) (hp : ∀ c ∈ cs, ¬ c < 0 ∧ ¬ (255 : Int32) < c) (hb : bs = cs.map (fun c => c.toInt8.toInt32)) (hfr : 4 ≤ R.frames) (hlo : W + 65 ≤ R.locals) :
    Back l R p e below s args (⟨"java/lang/String", "<init>", "([C)V"⟩ : MethodName) len W (fun P a => a = #[.ref x, .ref b] ∧ P.U.heap = h ∧ P.cells + 1 ≤ R.cells ∧ P.slots + n ≤ R.slots)
      (fun P _ v B => ∃ L, QV Z x N bs h n0 v B.U.heap L ∧ B.locs = P.locs ++ L ∧ B.cells = P.cells + 1 ∧ B.slots = P.slots + n) := by
  subst hn hN hb
  refine Back.mono (backArv hZ hw wi E V C K S hz (n32 (by omega)) l0 (by omega) (fun c hc => (hp c hc).2) hfr hlo) (fun P a hp => hp) (fun P a v B hp hq => ?_)
  obtain ⟨L, ⟨q1, q2, q3, q4, q5, q6, q7, ⟨kb, v1, v2⟩, q9⟩, hl, hc, hs⟩ := hq
  exact ⟨L, ⟨q1, fun y hy => by rw [q2 y hy]; exact hx0, q3, q5, q7, h.size, kb, hh0, Nat.le_refl _, Nat.ne_of_gt E.lt, q6, by rw [List.map_map]; exact v2⟩, hl, hc, hs⟩
end StrChars.Road
namespace StrChars
open Jvm Sem ClassFile Op Lib Jvm.Stand Jvm.Free.XT Jvm.Free.ALB Jvm.Free.JM Jvm.Free
open Jvm.Lib.Cold (StaticIs)
def hi8 (x : Int32) : Int32 := lo8 (x >>> ((8 : Int32) &&& 31))
/-- what StringUTF16.getChar makes of two bytes -/
def pairCh (u v : Int32) : Int32 := (((u &&& 255) <<< ((0 : Int32) &&& 31)) ||| ((v &&& 255) <<< ((8 : Int32) &&& 31))).toUInt32.toUInt16.toUInt32.toInt32
theorem shr0 (c : Int32) : c >>> ((0 : Int32) &&& 31) = c := by
  have e : ((0 : Int32) &&& 31) = 0 := by decide
  rw [e]
  apply Int32.toBitVec_inj.mp
  rw [Int32.toBitVec_shiftRight]
  have e1 : ((0 : Int32).toBitVec.smod 32) = 0#32 := by decide
  rw [e1, BitVec.sshiftRight_eq']
  exact BitVec.sshiftRight_zero
theorem lo8_and (x : Int32) : (lo8 x &&& 255).toBitVec.toNat = x.toBitVec.toNat % 256 := by
  have h : (lo8 x).toBitVec = (x.toBitVec.signExtend 8).signExtend 32 := by rw [lo8, Int8.toBitVec_toInt32, Int32.toBitVec_toInt8]
  rw [Int32.toBitVec_and, BitVec.toNat_and, h]
  have e : ((x.toBitVec.signExtend 8).signExtend 32).toNat % 256 = x.toBitVec.toNat % 256 := by
    rw [BitVec.toNat_signExtend]
    have hlt := x.toBitVec.isLt
    simp only [BitVec.toNat_setWidth, BitVec.toNat_signExtend]
    split <;> split <;> omega
  rw [← e]
  exact Nat.and_two_pow_sub_one_eq_mod _ 8
theorem pair_says {c : Int32} (h0 : ¬ c < 0) (h1 : ¬ 65535 < c) : pairCh (lo8 c) (hi8 c) = c := by
  rw [Int32.lt_iff_toInt_lt] at h0 h1
  have e0 : (0 : Int32).toInt = 0 := rfl
  have e1 : (65535 : Int32).toInt = 65535 := rfl
  have hc : c.toInt = c.toBitVec.toNat := by
    have := c.toBitVec.isLt
    have e : c.toInt = c.toBitVec.toInt := rfl
    rw [e] at h0 h1
    rw [e]
    rw [BitVec.toInt_eq_toNat_cond] at h0 h1 ⊢
    split at h0 <;> split <;> omega
  have hn : c.toBitVec.toNat < 65536 := by omega
  have a1 := lo8_and c
  have a2 : (hi8 c &&& 255).toBitVec.toNat = c.toBitVec.toNat / 256 := by
    rw [hi8, lo8_and]
    have e : ((8 : Int32) &&& 31) = 8 := by decide
    rw [e, Int32.toBitVec_shiftRight]
    have e2 : ((8 : Int32).toBitVec.smod 32) = 8#32 := by decide
    rw [e2, BitVec.sshiftRight_eq', BitVec.toNat_sshiftRight_of_msb_false (by rw [BitVec.msb_eq_false_iff_two_mul_lt]; omega)]
    show c.toBitVec.toNat >>> 8 % 256 = _
    rw [Nat.shiftRight_eq_div_pow]
    omega
  unfold pairCh
  apply Int32.toBitVec_inj.mp
  apply BitVec.eq_of_toNat_eq
  have f0 : ((0 : Int32) &&& 31) = 0 := by decide
  have f8 : ((8 : Int32) &&& 31) = 8 := by decide
  rw [f0, f8]
  have g : (((lo8 c &&& 255) <<< (0 : Int32)) ||| ((hi8 c &&& 255) <<< (8 : Int32))).toBitVec.toNat = c.toBitVec.toNat := by
    rw [Int32.toBitVec_or, Int32.toBitVec_shiftLeft, Int32.toBitVec_shiftLeft]
    have s0 : ((0 : Int32).toBitVec.smod 32) = 0#32 := by decide
    have s8 : ((8 : Int32).toBitVec.smod 32) = 8#32 := by decide
    rw [s0, s8, BitVec.toNat_or]
    simp only [BitVec.shiftLeft_eq', BitVec.toNat_shiftLeft, a1, a2]
    show (c.toBitVec.toNat % 256) <<< 0 % 2 ^ 32 ||| (c.toBitVec.toNat / 256) <<< 8 % 2 ^ 32 = _
    rw [Nat.shiftLeft_zero, Nat.mod_eq_of_lt (show c.toBitVec.toNat % 256 < 2 ^ 32 by omega), Nat.mod_eq_of_lt (show (c.toBitVec.toNat / 256) <<< 8 < 2 ^ 32 by rw [Nat.shiftLeft_eq]; omega), Nat.or_comm, ← Nat.shiftLeft_add_eq_or_of_lt (by omega), Nat.shiftLeft_eq]
    omega
  show BitVec.toNat (((((lo8 c &&& 255) <<< (0 : Int32)) ||| ((hi8 c &&& 255) <<< (8 : Int32))).toBitVec.setWidth 16).setWidth 32) = _
  rw [BitVec.toNat_setWidth, BitVec.toNat_setWidth, g]
  omega
end StrChars
namespace StrChars
open Jvm Sem ClassFile Op Lib Jvm.Stand Jvm.Free.XT Jvm.Free.ALB Jvm.Free.JM Jvm.Free
open Jvm.Lib.Cold (StaticIs)
theorem shr1 {n : Nat} (h : 2 * n < 2 ^ 31) : Int32.ofNat (2 * n) >>> ((1 : Int32) &&& 31) = Int32.ofNat n := by
  have e : ((1 : Int32) &&& 31) = 1 := by decide
  rw [e]
  apply Int32.toBitVec_inj.mp
  rw [Int32.toBitVec_shiftRight]
  have e1 : ((1 : Int32).toBitVec.smod 32) = 1#32 := by decide
  have hm : (BitVec.ofNat 32 (2 * n)).toNat = 2 * n := by rw [BitVec.toNat_ofNat, Nat.mod_eq_of_lt (by omega)]
  rw [e1, BitVec.sshiftRight_eq']
  apply BitVec.eq_of_toNat_eq
  show ((BitVec.ofNat 32 (2 * n)).sshiftRight 1).toNat = (BitVec.ofNat 32 n).toNat
  rw [BitVec.toNat_sshiftRight_of_msb_false (by rw [BitVec.msb_eq_false_iff_two_mul_lt, hm]; omega), hm, BitVec.toNat_ofNat, Nat.shiftRight_eq_div_pow]
  omega
/-- charAt's cast of a byte read back -/
def chr8 (u : Int32) : Int32 := (u &&& 255).toUInt32.toUInt16.toUInt32.toInt32
theorem chr8_lo8 {c : Int32} (h0 : ¬ c < 0) (h1 : ¬ 255 < c) : chr8 (lo8 c) = c := by
  have t : ∀ k : Fin 256, (Int32.ofNat k.val).toUInt32.toUInt16.toUInt32.toInt32 = Int32.ofNat k.val := by decide +kernel
  unfold chr8
  rw [lo8_mask h0 h1]
  rw [Int32.lt_iff_toInt_lt] at h0 h1
  have e0 : (0 : Int32).toInt = 0 := rfl
  have e1 : (255 : Int32).toInt = 255 := rfl
  obtain ⟨k, hk⟩ : ∃ k : Nat, c.toInt = k := ⟨c.toInt.toNat, by omega⟩
  have hx : c = Int32.ofNat k := Int32.toInt_inj.mp (by rw [hk, Int32.toInt_ofNat_small (by omega)])
  rw [hx]
  exact t ⟨k, by omega⟩
theorem narrow_ch {c : Int32} (h0 : ¬ c < 0) (h1 : ¬ 65535 < c) : narrow .char (.int c) = .int c := by
  have q : narrow .char (.int (pairCh (lo8 c) (hi8 c))) = .int (pairCh (lo8 c) (hi8 c)) := narrow_c _
  rwa [pair_says h0 h1] at q
/-- the array's cell V codes the n chars f 0 .. f (n - 1) by the coder cd, as the JDK does: coder 1 just where some char is above 255 -/
def Cod (cd : Int32) (n : Nat) (f : Nat → Int32) (V : Cell) : Prop := (cd = 0 ∧ V.slots.size = n ∧ ∀ j, j < n → V.slots[j]? = some (.int (lo8 (f j))) ∧ ¬ 255 < f j) ∨ (cd = 1 ∧ V.slots.size = 2 * n ∧ (∀ j, j < n → V.slots[2 * j]? = some (.int (lo8 (f j))) ∧ V.slots[2 * j + 1]? = some (.int (hi8 (f j)))) ∧ ∃ j, j < n ∧ 255 < f j)
theorem Cod.cd {cd : Int32} {n : Nat} {f : Nat → Int32} {V : Cell} (h : Cod cd n f V) : cd = 0 ∨ cd = 1 := h.imp (fun q => q.1) fun q => q.1
theorem Cod.len {cd : Int32} {n : Nat} {f : Nat → Int32} {V : Cell} (h : Cod cd n f V) (hs : V.slots.size < 2 ^ 31) : Int32.ofNat V.slots.size >>> (cd &&& 31) = Int32.ofNat n := by
  rcases h with ⟨rfl, h, -⟩ | ⟨rfl, h, -⟩
  · rw [shr0, h]
  · rw [h, shr1 (by omega)]
/-- **x is a String of the n chars f 0 .. f (n - 1)**, Latin-1 or UTF-16; its array at t has the cell V -/
def Txt (x t : Addr) (V : Cell) (cd : Int32) (n : Nat) (f : Nat → Int32) (U : State) : Prop := Exact "java/lang/String" x U ∧ Has x "java/lang/String" "value" "[B" (.ref t) U ∧ Has x "java/lang/String" "coder" "B" (.int cd) U ∧ XT.Arr .byte t V U ∧ Cod cd n f V ∧ ∀ j, j < n → ¬ f j < 0 ∧ ¬ 65535 < f j
theorem Txt.mv {x t : Addr} {V : Cell} {cd : Int32} {n : Nat} {f : Nat → Int32} {U U' : State} (h : Txt x t V cd n f U) (hal : U.vm.Alike U'.vm) (hh : U'.heap = U.heap) : Txt x t V cd n f U' := ⟨h.1.mv hal hh, h.2.1.mv hal hh, h.2.2.1.mv hal hh, h.2.2.2.1.mv hal hh, h.2.2.2.2⟩
namespace Cdr
def yN : MethodName := ⟨"java/lang/String", "coder", "()B"⟩
abbrev yB : ByteArray := jdk_42_method_152_code
theorem d0 : decode yB 0 = .ok (.getstatic 38, 3) := by decide +kernel
theorem d3 : decode yB 3 = .ok (.ifCond (.eq) 10, 3) := by decide +kernel
theorem d6 : decode yB 6 = .ok (.aload_n 0, 1) := by decide +kernel
theorem d7 : decode yB 7 = .ok (.getfield 15, 3) := by decide +kernel
theorem d10 : decode yB 10 = .ok (.goto 4, 3) := by decide +kernel
theorem d14 : decode yB 14 = .ok (.ireturn, 1) := by decide +kernel
def site : List Cond := [.fieldLink "java/lang/String" 38 "java/lang/String" "COMPACT_STRINGS" "Z", .fieldLink "java/lang/String" 15 "java/lang/String" "coder" "B"]
def tab : Cond := tabOf yN yB 1 (some .byte) site
def P (x : Addr) (cd z : Int32) (args : Array Value) (s : State) : Prop := args = #[.ref x] ∧ Has x "java/lang/String" "coder" "B" (.int cd) s ∧ (cd = 0 ∨ cd = 1) ∧ StaticIs s "java/lang/String" "COMPACT_STRINGS" "Z" (.int z) ∧ ¬ z = 0
def E (cd : Int32) (r : Option Value) (s u : State) : Prop := XT.PureE (some (.int cd)) r s u
theorem law (l : Launch) (x : Addr) (cd z : Int32) : Law l yN 1 0 0 0 yB 1 (some .byte) site (P x cd z) (E cd) [] 0 0 := by
  refine Law.of_walk (plainFor_of_name (by decide +kernel)) (by decide +kernel) (by decide +kernel) (by decide) (fun _ _ h => by rw [h.1]; rfl) (fun _ U U' hal hh h => ⟨h.1, h.2.1.mv hal hh, h.2.2.1, h.2.2.2.1.there hal hh, h.2.2.2.2⟩) (fun r U U' V V' h1 hal h2 h => XT.PureE.mv r U U' V V' h1 hal h2 h) ?_
  intro p e s m args below meth c s₁ X0 hexec hbytes hml hret hlk hnm hown hh0 W hP
  obtain ⟨rfl, hx, hc, s1, hz⟩ := hP
  have c1 : Steps p.tables e below (s₁.setTop (entryFrame m #[.ref x] 1)) (s₁.setTop (mkF m 0 #[.val (.ref x)] [])) := entry rfl
  obtain ⟨T2, X2, q2, st2⟩ := X0.sget hexec hown (wk W (.fieldLink "java/lang/String" 38 "java/lang/String" "COMPACT_STRINGS" "Z")) s1 (fun _ _ h => by rw [hh0]; exact h) (g := (mkF m 0 #[.val (.ref x)] [])) rfl (hb hbytes d0)
  have hh2 := q2.trans hh0
  have c3 : Steps p.tables e below (s₁.setTop (entryFrame m #[.ref x] 1)) (T2.setTop (mkF m 7 #[.val (.ref x)] [.ref x])) := (c1.trans (st2 _ (Steps.refl _))).trans (by
    refine XS.ifNo X2.here hexec rfl (hb hbytes d3) rfl (i0_eq_f hz) ?_
    refine XS.aloadN X2.here hexec rfl (hb hbytes d6) rfl rfl ?_
    exact Steps.refl _)
  obtain ⟨T4, X4, q4, st4⟩ := X2.hget hexec hown (wk W (.fieldLink "java/lang/String" 15 "java/lang/String" "coder" "B")) (hx.mv X2.warmed.alike hh2) (g := (mkF m 7 #[.val (.ref x)] [.ref x])) rfl (rest := []) rfl (hb hbytes d7)
  have c5 : Steps p.tables e below (s₁.setTop (entryFrame m #[.ref x] 1)) (T4.setTop (mkF m 14 #[.val (.ref x)] [.int cd])) := (c3.trans (st4 _ (Steps.refl _))).trans (by
    refine XS.goto X4.here hexec rfl (pc0 := 10) rfl (hb hbytes d10) (by decide) rfl ?_
    exact Steps.refl _)
  exact ⟨T4, some (.int cd), _, _, _, X4, rfl, rfl, rfl, (fun h => by cases h), ⟨rfl, q4.trans hh2⟩, fun fs hl => c5.trans (X4.ireturnOut hexec hret (by rcases hc with rfl | rfl <;> rfl) (Or.inr (Or.inr (Or.inl rfl))) (hb hbytes d14) hl)⟩
end Cdr
namespace Len
def yN : MethodName := ⟨"java/lang/String", "length", "()I"⟩
abbrev yB : ByteArray := jdk_42_method_54_code
theorem d0 : decode yB 0 = .ok (.aload_n 0, 1) := by decide +kernel
theorem d1 : decode yB 1 = .ok (.getfield 9, 3) := by decide +kernel
theorem d4 : decode yB 4 = .ok (.arraylength, 1) := by decide +kernel
theorem d5 : decode yB 5 = .ok (.aload_n 0, 1) := by decide +kernel
theorem d6 : decode yB 6 = .ok (.invokevirtual 335, 3) := by decide +kernel
theorem d9 : decode yB 9 = .ok (.ishr, 1) := by decide +kernel
theorem d10 : decode yB 10 = .ok (.ireturn, 1) := by decide +kernel
def site : List Cond := [.fieldLink "java/lang/String" 9 "java/lang/String" "value" "[B", Cdr.tab] ++ virtW "java/lang/String" 335 "java/lang/String" Cdr.yN Cdr.yN
def tab : Cond := tabOf yN yB 1 (some .int) site
def P (x t : Addr) (V : Cell) (cd : Int32) (n : Nat) (f : Nat → Int32) (z : Int32) (args : Array Value) (s : State) : Prop := args = #[.ref x] ∧ Txt x t V cd n f s ∧ StaticIs s "java/lang/String" "COMPACT_STRINGS" "Z" (.int z) ∧ ¬ z = 0
def E (n : Nat) (r : Option Value) (s u : State) : Prop := XT.PureE (some (.int (Int32.ofNat n))) r s u
/-- length() of a String of n chars, in either coding -/
theorem law (l : Launch) (x t : Addr) (V : Cell) (cd : Int32) (n : Nat) (f : Nat → Int32) (z : Int32) : Law l yN 1 0 1 13 yB 1 (some .int) site (P x t V cd n f z) (E n) [] 0 0 := by
  refine Law.of_walk (plainFor_of_name (by decide +kernel)) (by decide +kernel) (by decide +kernel) (by decide) (fun _ _ h => by rw [h.1]; rfl) (fun _ U U' hal hh h => ⟨h.1, h.2.1.mv hal hh, h.2.2.1.there hal hh, h.2.2.2⟩) (fun r U U' V V' h1 hal h2 h => XT.PureE.mv r U U' V V' h1 hal h2 h) ?_
  intro p e s m args below meth c s₁ X0 hexec hbytes hml hret hlk hnm hown hh0 W hP
  obtain ⟨rfl, hx, s1, hz⟩ := hP
  have v31 := hx.2.2.2.1.2.2.2
  have c1 : Steps p.tables e below (s₁.setTop (entryFrame m #[.ref x] 1)) (s₁.setTop (mkF m 1 #[.val (.ref x)] [.ref x])) := Steps.trans (entry rfl) (by
    show Steps p.tables e below (s₁.setTop (mkF m 0 #[.val (.ref x)] [])) _
    refine XS.aloadN X0.here hexec rfl (hb hbytes d0) rfl rfl ?_
    exact Steps.refl _)
  obtain ⟨T2, X2, q2, st2⟩ := X0.hget hexec hown (wk W (.fieldLink "java/lang/String" 9 "java/lang/String" "value" "[B")) (hx.mv X0.warmed.alike hh0).2.1 (g := (mkF m 1 #[.val (.ref x)] [.ref x])) rfl (rest := []) rfl (hb hbytes d1)
  have hh2 := q2.trans hh0
  have hx2 := hx.mv X2.warmed.alike hh2
  have c3 : Steps p.tables e below (s₁.setTop (entryFrame m #[.ref x] 1)) (T2.setTop (mkF m 6 #[.val (.ref x)] [.ref x, .int (Int32.ofNat V.slots.size)])) := (c1.trans (st2 _ (Steps.refl _))).trans (by
    refine X2.alen hexec hx2.2.2.2.1 rfl rfl (hb hbytes d4) ?_
    refine XS.aloadN X2.here hexec rfl (hb hbytes d5) rfl rfl ?_
    exact Steps.refl _)
  obtain ⟨v4, T4, X4, E4, g4⟩ := X2.callV hexec (Cdr.law l x cd z) hown (wks W (virtW "java/lang/String" 335 "java/lang/String" Cdr.yN Cdr.yN)) rfl (by decide) (wk W Cdr.tab) (W := 1) (Nat.le_of_ble_eq_true rfl) (Nat.le_of_ble_eq_true rfl) (Nat.le_refl _) (Nat.le_refl _) (hx2.1.fc X2.warmed.alike) hx2.1.is (g := (mkF m 6 #[.val (.ref x)] [.ref x, .int (Int32.ofNat V.slots.size)])) rfl (by rw [hml]; rfl) c3 (argsL := []) (rest := [.int (Int32.ofNat V.slots.size)]) rfl rfl (by show 2 * 0 + (1 + 0) ≤ _; decide) (hb hbytes d6) (⟨rfl, hx2.2.2.1, hx.2.2.2.2.1.cd, s1.there X2.warmed.alike hh2, hz⟩)
  obtain ⟨rfl, q4⟩ := E4
  have c5 : Steps p.tables e below (s₁.setTop (entryFrame m #[.ref x] 1)) (T4.setTop (mkF m 10 #[.val (.ref x)] [.int (Int32.ofNat V.slots.size >>> (cd &&& 31))])) := Steps.trans g4 (by
    refine ishr X4.here hexec rfl (hb hbytes d9) rfl ?_
    exact Steps.refl _)
  rw [hx.2.2.2.2.1.len v31] at c5
  exact ⟨T4, some (.int (Int32.ofNat n)), _, _, _, X4, rfl, rfl, rfl, (fun h => by cases h), ⟨rfl, q4.trans hh2⟩, fun fs hl => c5.trans (X4.ireturnOut hexec hret rfl (Or.inl rfl) (hb hbytes d10) hl)⟩
theorem pays {l : Launch} {R : Room} {p : Program} {e : Env} {below : List Frame} {s : State} {sargs : Array Value} {len W : Nat} (x t : Addr) (V : Cell) (cd : Int32) (n : Nat) (f : Nat → Int32) (z : Int32) (htab : tab.before sargs s = true) (hfr : 2 ≤ R.frames) (hlo : W + 25 ≤ R.locals) :
    Back l R p e below s sargs yN len W (fun A₁ a₁ => A₁.cells + 0 ≤ R.cells ∧ A₁.slots + 0 ≤ R.slots ∧ P x t V cd n f z a₁ A₁.U) (fun A₁ _ v₁ B₁ => E n v₁ A₁.U B₁.U ∧ B₁.locs = A₁.locs ++ [] ∧ B₁.cells = A₁.cells + 0 ∧ B₁.slots = A₁.slots + 0) :=
  (law l x t V cd n f z).pays htab hfr (by omega)
end Len
namespace IsL
def yN : MethodName := ⟨"java/lang/String", "isLatin1", "()Z"⟩
abbrev yB : ByteArray := jdk_42_method_154_code
theorem d0 : decode yB 0 = .ok (.getstatic 38, 3) := by decide +kernel
theorem d3 : decode yB 3 = .ok (.ifCond (.eq) 14, 3) := by decide +kernel
theorem d6 : decode yB 6 = .ok (.aload_n 0, 1) := by decide +kernel
theorem d7 : decode yB 7 = .ok (.getfield 15, 3) := by decide +kernel
theorem d10 : decode yB 10 = .ok (.ifCond (.ne) 7, 3) := by decide +kernel
theorem d13 : decode yB 13 = .ok (.iconst 1, 1) := by decide +kernel
theorem d14 : decode yB 14 = .ok (.goto 4, 3) := by decide +kernel
theorem d17 : decode yB 17 = .ok (.iconst 0, 1) := by decide +kernel
theorem d18 : decode yB 18 = .ok (.ireturn, 1) := by decide +kernel
def site : List Cond := [.fieldLink "java/lang/String" 38 "java/lang/String" "COMPACT_STRINGS" "Z", .fieldLink "java/lang/String" 15 "java/lang/String" "coder" "B"]
def tab : Cond := tabOf yN yB 1 (some .boolean) site
def P (x : Addr) (cd z : Int32) (args : Array Value) (s : State) : Prop := args = #[.ref x] ∧ Has x "java/lang/String" "coder" "B" (.int cd) s ∧ (cd = 0 ∨ cd = 1) ∧ StaticIs s "java/lang/String" "COMPACT_STRINGS" "Z" (.int z) ∧ ¬ z = 0
def E (cd : Int32) (r : Option Value) (s u : State) : Prop := XT.PureE (some (.int (1 - cd))) r s u
theorem law (l : Launch) (x : Addr) (cd z : Int32) : Law l yN 1 0 0 0 yB 1 (some .boolean) site (P x cd z) (E cd) [] 0 0 := by
  refine Law.of_walk (plainFor_of_name (by decide +kernel)) (by decide +kernel) (by decide +kernel) (by decide) (fun _ _ h => by rw [h.1]; rfl) (fun _ U U' hal hh h => ⟨h.1, h.2.1.mv hal hh, h.2.2.1, h.2.2.2.1.there hal hh, h.2.2.2.2⟩) (fun r U U' V V' h1 hal h2 h => XT.PureE.mv r U U' V V' h1 hal h2 h) ?_
  intro p e s m args below meth c s₁ X0 hexec hbytes hml hret hlk hnm hown hh0 W hP
  obtain ⟨rfl, hx, hc, s1, hz⟩ := hP
  have c1 : Steps p.tables e below (s₁.setTop (entryFrame m #[.ref x] 1)) (s₁.setTop (mkF m 0 #[.val (.ref x)] [])) := entry rfl
  obtain ⟨T2, X2, q2, st2⟩ := X0.sget hexec hown (wk W (.fieldLink "java/lang/String" 38 "java/lang/String" "COMPACT_STRINGS" "Z")) s1 (fun _ _ h => by rw [hh0]; exact h) (g := (mkF m 0 #[.val (.ref x)] [])) rfl (hb hbytes d0)
  have hh2 := q2.trans hh0
  have c3 : Steps p.tables e below (s₁.setTop (entryFrame m #[.ref x] 1)) (T2.setTop (mkF m 7 #[.val (.ref x)] [.ref x])) := (c1.trans (st2 _ (Steps.refl _))).trans (by
    refine XS.ifNo X2.here hexec rfl (hb hbytes d3) rfl (i0_eq_f hz) ?_
    refine XS.aloadN X2.here hexec rfl (hb hbytes d6) rfl rfl ?_
    exact Steps.refl _)
  obtain ⟨T4, X4, q4, st4⟩ := X2.hget hexec hown (wk W (.fieldLink "java/lang/String" 15 "java/lang/String" "coder" "B")) (hx.mv X2.warmed.alike hh2) (g := (mkF m 7 #[.val (.ref x)] [.ref x])) rfl (rest := []) rfl (hb hbytes d7)
  have c5 : Steps p.tables e below (s₁.setTop (entryFrame m #[.ref x] 1)) (T4.setTop (mkF m 10 #[.val (.ref x)] [.int cd])) := c3.trans (st4 _ (Steps.refl _))
  have c6 : Steps p.tables e below (s₁.setTop (entryFrame m #[.ref x] 1)) (T4.setTop (mkF m 18 #[.val (.ref x)] [.int (1 - cd)])) := by
    rcases hc with rfl | rfl
    · exact c5.trans (by
        refine XS.ifNo X4.here hexec rfl (hb hbytes d10) rfl (i0_ne_f rfl) ?_
        refine iconstV X4.here hexec rfl 1 (hb hbytes d13) (by decide) ?_
        refine XS.goto X4.here hexec rfl (pc0 := 14) rfl (hb hbytes d14) (by decide) rfl ?_
        exact Steps.refl _)
    · exact c5.trans (by
        refine XS.ifYes X4.here hexec rfl (pc0 := 10) rfl (hb hbytes d10) rfl (i0_ne_t (by decide)) (by decide) rfl ?_
        refine iconstV X4.here hexec rfl 0 (hb hbytes d17) (by decide) ?_
        exact Steps.refl _)
  exact ⟨T4, some (.int (1 - cd)), _, _, _, X4, rfl, rfl, rfl, (fun h => by cases h), ⟨rfl, q4.trans hh2⟩, fun fs hl => c6.trans (X4.ireturnOut hexec hret (by rcases hc with rfl | rfl <;> rfl) (Or.inr (Or.inl rfl)) (hb hbytes d18) hl)⟩
end IsL
namespace LChA
def yN : MethodName := ⟨"java/lang/StringLatin1", "charAt", "([BI)C"⟩
abbrev yB : ByteArray := jdk_43_method_2_code
theorem d0 : decode yB 0 = .ok (.iload_n 1, 1) := by decide +kernel
theorem d1 : decode yB 1 = .ok (.aload_n 0, 1) := by decide +kernel
theorem d2 : decode yB 2 = .ok (.arraylength, 1) := by decide +kernel
theorem d3 : decode yB 3 = .ok (.invokestatic 9, 3) := by decide +kernel
theorem d6 : decode yB 6 = .ok (.aload_n 0, 1) := by decide +kernel
theorem d7 : decode yB 7 = .ok (.iload_n 1, 1) := by decide +kernel
theorem d8 : decode yB 8 = .ok (.baload, 1) := by decide +kernel
theorem d9 : decode yB 9 = .ok (.sipush 255, 3) := by decide +kernel
theorem d12 : decode yB 12 = .ok (.iand, 1) := by decide +kernel
theorem d13 : decode yB 13 = .ok (.i2c, 1) := by decide +kernel
theorem d14 : decode yB 14 = .ok (.ireturn, 1) := by decide +kernel
def site : List Cond := [JO.Str_checkIndex.tab] ++ staticW "java/lang/StringLatin1" 9 JO.Str_checkIndex.yN
def tab : Cond := tabOf yN yB 2 (some .char) site
def P (t : Addr) (V : Cell) (i : Nat) (u : Int32) (fm : Value) (args : Array Value) (s : State) : Prop := args = #[.ref t, .int (Int32.ofNat i)] ∧ XT.Arr .byte t V s ∧ V.slots[i]? = some (.int u) ∧ (StaticIs s "jdk/internal/util/Preconditions" "SIOOBE_FORMATTER" "Ljava/util/function/BiFunction;" fm ∧ fm.isRef = true)
def E (u : Int32) (r : Option Value) (s w : State) : Prop := XT.PureE (some (.int (chr8 u))) r s w
theorem law (l : Launch) (t : Addr) (V : Cell) (i : Nat) (u : Int32) (fm : Value) : Law l yN 2 2 2 27 yB 2 (some .char) site (P t V i u fm) (E u) [] 0 0 := by
  refine Law.of_walk (plainFor_of_name (by decide +kernel)) (by decide +kernel) (by decide +kernel) (by decide) (fun _ _ h => by rw [h.1]; rfl) (fun _ U U' hal hh h => ⟨h.1, h.2.1.mv hal hh, h.2.2.1, h.2.2.2.1.there hal hh, h.2.2.2.2⟩) (fun r U U' V V' h1 hal h2 h => XT.PureE.mv r U U' V V' h1 hal h2 h) ?_
  intro p e s m args below meth c s₁ X0 hexec hbytes hml hret hlk hnm hown hh0 W hP
  obtain ⟨rfl, hV, hu, s1, rf⟩ := hP
  have v31 := hV.2.2.2
  have hi : i < V.slots.size := (Array.getElem?_eq_some_iff.mp hu).1
  have c1 : Steps p.tables e below (s₁.setTop (entryFrame m #[.ref t, .int (Int32.ofNat i)] 2)) (s₁.setTop (mkF m 0 #[.val (.ref t), .val (.int (Int32.ofNat i))] [])) := entry rfl
  have c2 : Steps p.tables e below (s₁.setTop (entryFrame m #[.ref t, .int (Int32.ofNat i)] 2)) (s₁.setTop (mkF m 3 #[.val (.ref t), .val (.int (Int32.ofNat i))] [.int (Int32.ofNat V.slots.size), .int (Int32.ofNat i)])) := c1.trans (by
    refine XS.iloadN X0.here hexec rfl (hb hbytes d0) rfl ?_
    refine XS.aloadN X0.here hexec rfl (hb hbytes d1) rfl rfl ?_
    refine X0.alen hexec (hV.mv X0.warmed.alike hh0) rfl rfl (hb hbytes d2) ?_
    exact Steps.refl _)
  obtain ⟨v3, T3, X3, E3, g3⟩ := X0.callS hexec (JO.Str_checkIndex.law l (Int32.ofNat i) (Int32.ofNat V.slots.size) fm) hown (wks W (staticW "java/lang/StringLatin1" 9 JO.Str_checkIndex.yN)) (wk W JO.Str_checkIndex.tab) (W := 0) (Nat.le_of_ble_eq_true rfl) (Nat.le_of_ble_eq_true rfl) (Nat.le_refl _) (Nat.le_refl _) (g := (mkF m 3 #[.val (.ref t), .val (.int (Int32.ofNat i))] [.int (Int32.ofNat V.slots.size), .int (Int32.ofNat i)])) rfl (by rw [hml]; rfl) c2 (argsL := [.int (Int32.ofNat i), .int (Int32.ofNat V.slots.size)]) (rest := []) rfl rfl (by show 2 * 0 + 0 ≤ _; decide) (hb hbytes d3) (⟨rfl, rf, s1.there X0.warmed.alike hh0, Int32.ofNat_not_neg (by omega), lt32 v31 hi⟩)
  obtain ⟨rfl, q3⟩ := E3
  have hh3 := q3.trans hh0
  have c4 : Steps p.tables e below (s₁.setTop (entryFrame m #[.ref t, .int (Int32.ofNat i)] 2)) (T3.setTop (mkF m 14 #[.val (.ref t), .val (.int (Int32.ofNat i))] [.int (chr8 u)])) := Steps.trans g3 (by
    refine XS.aloadN X3.here hexec rfl (hb hbytes d6) rfl rfl ?_
    refine XS.iloadN X3.here hexec rfl (hb hbytes d7) rfl ?_
    refine X3.aget hexec (hV.mv X3.warmed.alike hh3) rfl hu rfl rfl (hb hbytes d8) ?_
    refine sipushV X3.here hexec rfl 255 (hb hbytes d9) (by decide) ?_
    refine XS.iand X3.here hexec rfl (hb hbytes d12) rfl ?_
    refine i2c X3.here hexec rfl (hb hbytes d13) rfl ?_
    exact Steps.refl _)
  exact ⟨T3, some (.int (chr8 u)), _, _, _, X3, rfl, rfl, rfl, (fun h => by cases h), ⟨rfl, hh3⟩, fun fs hl => c4.trans (X3.ireturnOut hexec hret (narrow_c _) (Or.inr (Or.inr (Or.inr (Or.inl rfl)))) (hb hbytes d14) hl)⟩
end LChA
end StrChars
namespace StrChars.Road
open Jvm Sem ClassFile Op Lib Jvm.Stand Jvm.Free Jvm.Free.XT
open Jvm.Lib.Cold (StaticIs)
theorem consq {a : Array Value} {s : State} {c : Jvm.Cond} {L : List Jvm.Cond} (h0 : c.before a s = true) (h : ∀ w ∈ L, w.before a s = true) : ∀ w ∈ c :: L, w.before a s = true := fun w hw => (List.mem_cons.mp hw).elim (fun e => e ▸ h0) (h w)
/-- the words of String.length(), either coding -/
abbrev wordsLen : List Jvm.Cond := [.code Len.yN Len.yB 1 (some .int), .initialized ST, .fieldLink ST 9 ST "value" "[B", .fieldLink ST 38 ST "COMPACT_STRINGS" "Z", .fieldLink ST 15 ST "coder" "B", .code Cdr.yN Cdr.yB 1 (some .byte), .methodLink ST 335 Cdr.yN, .declares Cdr.yN, .selects ST Cdr.yN Cdr.yN, .instanceMethod Cdr.yN]
theorem tabLen_of {a : Array Value} {s : State} (h : ∀ w ∈ wordsLen, w.before a s = true) : Len.tab.before a s = true := by
  have hc : Cdr.tab.before a s = true := unparts (wk h (.code Cdr.yN Cdr.yB 1 (some .byte))) (wks h (.initialized Cdr.yN.cls :: Cdr.site))
  have q := consq hc h
  exact unparts (wk q (.code Len.yN Len.yB 1 (some .int))) (wks q (.initialized Len.yN.cls :: Len.site))
theorem movedLen {Z s : State} {a0 args : Array Value} (hZ : Z.Warmed39 s.vm) (hw : ∀ d ∈ wordsLen, d.before a0 Z = true) : ∀ d ∈ wordsLen, d.before args s = true := fun d hd => by
  have q := hw d hd
  have t : ∀ d ∈ wordsLen, d = .arrayClass .byte ∨ (d.onTables && d.keepsFace) = true := by decide +kernel
  rcases t d hd with rfl | t
  · exact RoadKit.mvA hZ q
  · exact RoadKit.mv hZ q t
/-- the bytes of the chars cs, low before high -/
def wideBytes : List Int32 → List Value
  | [] => []
  | c :: cs => .int (lo8 c) :: .int (hi8 c) :: wideBytes cs
theorem wide_lo (d : Value) : ∀ (cs : List Int32) (j : Nat), j < cs.length → (wideBytes cs).getD (2 * j) d = .int (lo8 (cs.getD j 0))
  | [], j, h => absurd h (Nat.not_lt_zero j)
  | c :: cs, 0, _ => rfl
  | c :: cs, j + 1, h => by
    have q := wide_lo d cs j (by simpa using h)
    rw [show 2 * (j + 1) = 2 * j + 1 + 1 from by omega]
    simpa [wideBytes] using q
theorem wide_hi (d : Value) : ∀ (cs : List Int32) (j : Nat), j < cs.length → (wideBytes cs).getD (2 * j + 1) d = .int (hi8 (cs.getD j 0))
  | [], j, h => absurd h (Nat.not_lt_zero j)
  | c :: cs, 0, _ => rfl
  | c :: cs, j + 1, h => by
    have q := wide_hi d cs j (by simpa using h)
    rw [show 2 * (j + 1) + 1 = 2 * j + 1 + 1 + 1 from by omega]
    simpa [wideBytes] using q
theorem low_at (d : Value) (cs : List Int32) (j : Nat) (h : j < cs.length) : (cs.map fun c => Value.int (lo8 c)).getD j d = .int (lo8 (cs.getD j 0)) := by
  simp [List.getD_eq_getElem?_getD, h]
/-- an array of N2 bytes vs codes the chars cs by the coder cd -/
def CodA (cs : List Int32) (cd N2 : Int32) (vs : List Value) : Prop := (cd = 0 ∧ N2 = Int32.ofNat cs.length ∧ vs = (cs.map fun c => Value.int (lo8 c)) ∧ ∀ c ∈ cs, ¬ 255 < c) ∨ (cd = 1 ∧ N2 = Int32.ofNat (2 * cs.length) ∧ vs = wideBytes cs ∧ ∃ c ∈ cs, 255 < c)
theorem CodA.cod {cs : List Int32} {cd N2 : Int32} {vs : List Value} {V : Cell} (h : CodA cs cd N2 vs) (hn : 2 * cs.length < 2 ^ 31) (hs : V.slots.size = N2.toNatClampNeg) (hv : RoadKit.Has V vs (.int 0)) : Cod cd cs.length (fun j => cs.getD j 0) V := by
  rcases h with ⟨rfl, rfl, rfl, h⟩ | ⟨rfl, rfl, rfl, c, hc, hw⟩
  · rw [n32 (by omega)] at hs
    exact Or.inl ⟨rfl, hs, fun j hj => ⟨by rw [hv j (by omega), low_at _ _ _ hj], by
      have e : cs.getD j 0 = cs[j] := by simp [List.getD_eq_getElem?_getD, hj]
      show ¬ 255 < cs.getD j 0
      rw [e]; exact h _ (List.getElem_mem _)⟩⟩
  · rw [n32 (by omega)] at hs
    obtain ⟨j, hj, rfl⟩ := List.getElem_of_mem hc
    exact Or.inr ⟨rfl, hs, fun j hj => ⟨by rw [hv _ (by omega), wide_lo _ _ _ hj], by rw [hv _ (by omega), wide_hi _ _ _ hj]⟩, j, hj, by
      have e : cs.getD j 0 = cs[j] := by simp [List.getD_eq_getElem?_getD, hj]
      show 255 < cs.getD j 0
      rw [e]; exact hw⟩
/-- an object of exactly java/lang/String, its two fields found: as the laws ask it -/
theorem strObj {Z U : State} {a0 : Array Value} {kI : Nat} (wi : (Jvm.Cond.instantiable ST kI).before a0 Z = true) (al : Z.vm.Alike U.vm) {x : Addr} {v0 c0 : Value} (E : RoadKit.Exa Z U.heap x ST) (V : RoadKit.Fld Z U.heap x ST "value" "[B" v0) (C : RoadKit.Fld Z U.heap x ST "coder" "B" c0) :
    ∃ (D : Cell) (fV fC : Field), Blank ST x D U ∧ Found ST "value" "[B" fV U ∧ Found ST "coder" "B" fC U ∧ D.slots[fV.slot]? = some v0 ∧ D.slots[fC.slot]? = some c0 ∧ RoadKit.slotOf Z ST "value" "[B" = fV.slot ∧ RoadKit.slotOf Z ST "coder" "B" = fC.slot := by
  obtain ⟨D, cfV, kV, iV, fV, hD, gV, stV, knV, obV, asV, slV⟩ := V
  obtain ⟨D', cfC, kC, iC, fC, hD', gC, stC, -, -, asC, slC⟩ := C
  cases hD.symm.trans hD'
  obtain ⟨D2, kD, e1, e2, e3, e4, e5⟩ := E
  cases hD.symm.trans e1
  obtain ⟨c2, k2, i1, i2, i3, -⟩ := Cond.instantiable_spec wi
  cases e2.symm.trans i1
  cases e3.symm.trans i2
  obtain ⟨kU, u1, u2⟩ := al.2.2 _ _ e3
  exact ⟨D, fV, fC, ⟨hD, ⟨knV, fun q hq => by rw [hq] at obV; cases obV⟩, by rw [al.findClass]; exact e2, kU, u1, by rw [u2]; exact i3, by rw [u2]; exact e5 i3⟩, ⟨SBG.found_only al ⟨cfV, kV, iV, gV⟩, stV⟩, ⟨SBG.found_only al ⟨cfC, kC, iC, gC⟩, stC⟩, slV, slC, by simp [RoadKit.slotOf, gV], by simp [RoadKit.slotOf, gC]⟩
theorem sta_is {Z U : State} (al : Z.vm.Alike U.vm) {C n d : String} {v : Value} (S : RoadKit.Sta Z U.heap C n d v) : StaticIs U C n d v := by
  obtain ⟨cfS, iS, kS, fS, st, cS, t1, t2, t3, t4, t5, t6, t7⟩ := S
  exact StaticIs.there (s := { Z with heap := U.heap }) ⟨cfS, iS, kS, fS, st, cS, t1, t2, t3, t4, t5, (fun q => by rw [q] at t6; cases t6), t7⟩ al rfl
/-- **length() OF SUCH A STRING** -/
theorem lenW {p : Program} {l : Launch} {e : Env} {R : Room} {s : State} {args : Array Value} {below : List Frame} {len W : Nat} {Z : State} {a0 : Array Value} {h : Heap} (hZ : Z.Warmed39 s.vm) (hw : ∀ d ∈ wordsLen, d.before a0 Z = true) {kI : Nat} (wi : (Jvm.Cond.instantiable ST kI).before a0 Z = true)
    {x t : Addr} {kb : ClassId} {cs : List Int32} {cd N2 z : Int32} {vs : List Value} (E : RoadKit.Exa Z h x ST) (V : RoadKit.Fld Z h x ST "value" "[B" (.ref t)) (C : RoadKit.Fld Z h x ST "coder" "B" (.int cd)) (K : RoadKit.Arv Z h t kb .byte N2 vs (.int 0)) (hc : CodA cs cd N2 vs) (hb : ∀ c ∈ cs, ¬ c < 0 ∧ ¬ (65535 : Int32) < c)
    (S : RoadKit.Sta Z h ST "COMPACT_STRINGS" "Z" (.int z)) (hz : ¬ z = 0) (l2 : cs.length ≤ 4000) (hfr : 2 ≤ R.frames) (hlo : W + 25 ≤ R.locals) :
    Back l R p e below s args (⟨"java/lang/String", "length", "()I"⟩ : MethodName) len W (fun P a => a = #[.ref x] ∧ P.U.heap = h ∧ P.cells + 0 ≤ R.cells ∧ P.slots + 0 ≤ R.slots)
      (fun P _ v B => ∃ L, (v = some (.int (Int32.ofNat cs.length)) ∧ L = [] ∧ B.U.heap = h) ∧ B.locs = P.locs ++ L ∧ B.cells = P.cells + 0 ∧ B.slots = P.slots + 0) := by
  obtain ⟨A, K1, K2, K3, K4, K5, K6⟩ := K
  have hcod := hc.cod (by omega) K3 K5
  intro m meth c P g ig mk a X hg hsize hdg hW hn hp'
  obtain ⟨rfl, rfl, r1, r2⟩ := hp'
  have al : Z.vm.Alike P.U.vm := hZ.alike.trans X.warmed.alike
  obtain ⟨D, fV, fC, hB, F1, F2, g1, g2, -, -⟩ := strObj wi al E V C
  have hx : Txt x t A cd cs.length (fun j => cs.getD j 0) P.U := ⟨⟨_, hB.2.2.1, D, hB.1, rfl, by cases q : D.vm <;> first | rfl | exact absurd q (hB.2.1.2 _)⟩, Has.of hB F1 g1, Has.of hB F2 g2, ⟨K1.1, State.isArrayOf_alike al K1.2.1, K1.2.2, by rcases hcod with ⟨-, q, -⟩ | ⟨-, q, -⟩ <;> omega⟩, hcod, fun j hj => by
    have e : cs.getD j 0 = cs[j] := by simp [List.getD_eq_getElem?_getD, hj]
    show ¬ cs.getD j 0 < 0 ∧ ¬ 65535 < cs.getD j 0
    rw [e]; exact hb _ (List.getElem_mem _)⟩
  obtain ⟨v, B, X', ⟨⟨hv, hh⟩, hl, hk, hs⟩, st⟩ := Len.pays x t A cd cs.length (fun j => cs.getD j 0) z (tabLen_of (movedLen hZ hw)) hfr hlo m meth c P g ig mk _ X hg hsize hdg hW hn ⟨r1, r2, rfl, hx, sta_is al S, hz⟩
  exact ⟨v, B, X', ⟨[], ⟨hv, rfl, hh⟩, hl, hk, hs⟩, st⟩
end StrChars.Road
namespace StrChars
open Jvm Sem ClassFile Op Lib Jvm.Stand Jvm.Free.XT Jvm.Free.ALB Jvm.Free.JM Jvm.Free
open Jvm.Lib.Cold (StaticIs)
/-- what place i of a byte[]'s cell holds -/
def yv (A : Cell) (i : Nat) : Int32 := match A.slots[i]? with | some (.int x) => x | _ => 0
theorem yv_get {a : Addr} {A : Cell} {U : State} (h : XT.Arr .byte a A U) (ht : Typed .byte A) {i : Nat} (hi : i < A.slots.size) : A.slots[i]? = some (.int (yv A i)) := by
  have e := Array.getElem?_eq_getElem hi
  have f := ht i _ e
  unfold yv; rw [e]
  generalize A.slots[i] = v at f
  cases v <;> simp [fits] at f ⊢
/-- the two arrays are equal, place for place -/
def EqC (A B : Cell) : Prop := A.slots.size = B.slots.size ∧ ∀ i, i < A.slots.size → yv A i = yv B i
/-- a boolean that says whether p -/
def Says01 (q : Prop) (r : Option Value) (s u : State) : Prop := ∃ v : Int32, r = some (.int v) ∧ u.heap = s.heap ∧ ((v = 1 ∧ q) ∨ (v = 0 ∧ ¬ q))
theorem Says01.mv {q : Prop} : ∀ r (U U' V V' : State), U'.heap = U.heap → V.vm.Alike V'.vm → V'.heap = V.heap → Says01 q r U V → Says01 q r U' V' :=
  fun r U U' V V' h1 _ h2 ⟨v, a, b, c⟩ => ⟨v, a, by rw [h1, h2]; exact b, c⟩
namespace LEq
def yN : MethodName := ⟨"java/lang/StringLatin1", "equals", "([B[B)Z"⟩
abbrev yB : ByteArray := jdk_43_method_13_code
theorem d0 : decode yB 0 = .ok (.aload_n 0, 1) := by decide +kernel
theorem d1 : decode yB 1 = .ok (.arraylength, 1) := by decide +kernel
theorem d2 : decode yB 2 = .ok (.aload_n 1, 1) := by decide +kernel
theorem d3 : decode yB 3 = .ok (.arraylength, 1) := by decide +kernel
theorem d4 : decode yB 4 = .ok (.if_icmp (.ne) 30, 3) := by decide +kernel
theorem d7 : decode yB 7 = .ok (.iconst 0, 1) := by decide +kernel
theorem d8 : decode yB 8 = .ok (.istore_n 2, 1) := by decide +kernel
theorem d9 : decode yB 9 = .ok (.iload_n 2, 1) := by decide +kernel
theorem d10 : decode yB 10 = .ok (.aload_n 0, 1) := by decide +kernel
theorem d11 : decode yB 11 = .ok (.arraylength, 1) := by decide +kernel
theorem d12 : decode yB 12 = .ok (.if_icmp (.ge) 20, 3) := by decide +kernel
theorem d15 : decode yB 15 = .ok (.aload_n 0, 1) := by decide +kernel
theorem d16 : decode yB 16 = .ok (.iload_n 2, 1) := by decide +kernel
theorem d17 : decode yB 17 = .ok (.baload, 1) := by decide +kernel
theorem d18 : decode yB 18 = .ok (.aload_n 1, 1) := by decide +kernel
theorem d19 : decode yB 19 = .ok (.iload_n 2, 1) := by decide +kernel
theorem d20 : decode yB 20 = .ok (.baload, 1) := by decide +kernel
theorem d21 : decode yB 21 = .ok (.if_icmp (.eq) 5, 3) := by decide +kernel
theorem d24 : decode yB 24 = .ok (.iconst 0, 1) := by decide +kernel
theorem d25 : decode yB 25 = .ok (.ireturn, 1) := by decide +kernel
theorem d26 : decode yB 26 = .ok (.iinc 2 1, 3) := by decide +kernel
theorem d29 : decode yB 29 = .ok (.goto (-20), 3) := by decide +kernel
theorem d32 : decode yB 32 = .ok (.iconst 1, 1) := by decide +kernel
theorem d33 : decode yB 33 = .ok (.ireturn, 1) := by decide +kernel
theorem d34 : decode yB 34 = .ok (.iconst 0, 1) := by decide +kernel
theorem d35 : decode yB 35 = .ok (.ireturn, 1) := by decide +kernel
def site : List Cond := []
def tab : Cond := tabOf yN yB 3 (some .boolean) site
def P (a : Addr) (A : Cell) (b : Addr) (B : Cell) (args : Array Value) (s : State) : Prop := args = #[.ref a, .ref b] ∧ XT.Arr .byte a A s ∧ Typed .byte A ∧ XT.Arr .byte b B s ∧ Typed .byte B
/-- whether two byte[] are equal, place for place -/
theorem law (l : Launch) (a : Addr) (A : Cell) (b : Addr) (B : Cell) : Law l yN 2 2 0 0 yB 3 (some .boolean) site (P a A b B) (Says01 (EqC A B)) [] 0 0 := by
  refine Law.of_walk (plainFor_of_name (by decide +kernel)) (by decide +kernel) (by decide +kernel) (by decide) (fun _ _ h => by rw [h.1]; rfl) (fun _ U U' hal hh h => ⟨h.1, h.2.1.mv hal hh, h.2.2.1, h.2.2.2.1.mv hal hh, h.2.2.2.2⟩) (fun r U U' V V' h1 hal h2 h => Says01.mv r U U' V V' h1 hal h2 h) ?_
  intro p e s m args below meth c s₁ X0 hexec hbytes hml hret hlk hnm hown hh0 W hP
  obtain ⟨rfl, hA, tA, hB, tB⟩ := hP
  have a31 := hA.2.2.2
  have b31 := hB.2.2.2
  have hA0 := hA.mv X0.warmed.alike hh0
  have hB0 := hB.mv X0.warmed.alike hh0
  have c1 : Steps p.tables e below (s₁.setTop (entryFrame m #[.ref a, .ref b] 3)) (s₁.setTop (mkF m 0 #[.val (.ref a), .val (.ref b), .unset] [])) := entry rfl
  have c2 : Steps p.tables e below (s₁.setTop (entryFrame m #[.ref a, .ref b] 3)) (s₁.setTop (mkF m 4 #[.val (.ref a), .val (.ref b), .unset] [.int (Int32.ofNat B.slots.size), .int (Int32.ofNat A.slots.size)])) := c1.trans (by
    refine XS.aloadN X0.here hexec rfl (hb hbytes d0) rfl rfl ?_
    refine X0.alen hexec hA0 rfl rfl (hb hbytes d1) ?_
    refine XS.aloadN X0.here hexec rfl (hb hbytes d2) rfl rfl ?_
    refine X0.alen hexec hB0 rfl rfl (hb hbytes d3) ?_
    exact Steps.refl _)
  by_cases hs : A.slots.size = B.slots.size
  · have c3 : Steps p.tables e below (s₁.setTop (entryFrame m #[.ref a, .ref b] 3)) (s₁.setTop (mkF m 9 #[.val (.ref a), .val (.ref b), .val (.int 0)] [])) := c2.trans (by
      refine XS.icmpNo X0.here hexec rfl (hb hbytes d4) rfl (ii_ne_f (by rw [hs])) ?_
      refine iconstV X0.here hexec rfl 0 (hb hbytes d7) (by decide) ?_
      refine XS.istoreN X0.here hexec rfl (hb hbytes d8) rfl rfl ?_
      exact Steps.refl _)
    have loop : ∀ (r i : Nat), i + r = A.slots.size → (∀ j, j < i → yv A j = yv B j) → Steps p.tables e below (s₁.setTop (entryFrame m #[.ref a, .ref b] 3)) (s₁.setTop (mkF m 9 #[.val (.ref a), .val (.ref b), .val (.int (Int32.ofNat i))] [])) → ∃ (pc : Nat) (Ls : Array Slot) (v : Int32), (pc = 25 ∨ pc = 33) ∧ ((v = 1 ∧ EqC A B) ∨ (v = 0 ∧ ¬ EqC A B)) ∧ Steps p.tables e below (s₁.setTop (entryFrame m #[.ref a, .ref b] 3)) (s₁.setTop (mkF m pc Ls [.int v])) := by
      intro r
      induction r with
      | zero =>
        intro i hi he cl
        exact ⟨33, _, 1, Or.inr rfl, Or.inl ⟨rfl, hs, fun j hj => he j (by omega)⟩, cl.trans (by
          refine XS.iloadN X0.here hexec rfl (hb hbytes d9) rfl ?_
          refine XS.aloadN X0.here hexec rfl (hb hbytes d10) rfl rfl ?_
          refine X0.alen hexec hA0 rfl rfl (hb hbytes d11) ?_
          refine XS.icmpYes X0.here hexec rfl (pc0 := 12) rfl (hb hbytes d12) rfl (ii_ge_t (nlt32 (by omega) (by omega))) (by decide) rfl ?_
          refine iconstV X0.here hexec rfl 1 (hb hbytes d32) (by decide) ?_
          exact Steps.refl _)⟩
      | succ r ih =>
        intro i hi he cl
        have c4 : Steps p.tables e below (s₁.setTop (entryFrame m #[.ref a, .ref b] 3)) (s₁.setTop (mkF m 21 #[.val (.ref a), .val (.ref b), .val (.int (Int32.ofNat i))] [.int (yv B i), .int (yv A i)])) := cl.trans (by
          refine XS.iloadN X0.here hexec rfl (hb hbytes d9) rfl ?_
          refine XS.aloadN X0.here hexec rfl (hb hbytes d10) rfl rfl ?_
          refine X0.alen hexec hA0 rfl rfl (hb hbytes d11) ?_
          refine XS.icmpNo X0.here hexec rfl (hb hbytes d12) rfl (ii_ge_f (lt32 (by omega) (by omega))) ?_
          refine XS.aloadN X0.here hexec rfl (hb hbytes d15) rfl rfl ?_
          refine XS.iloadN X0.here hexec rfl (hb hbytes d16) rfl ?_
          refine X0.aget hexec hA0 rfl (yv_get hA tA (i := i) (by omega)) rfl rfl (hb hbytes d17) ?_
          refine XS.aloadN X0.here hexec rfl (hb hbytes d18) rfl rfl ?_
          refine XS.iloadN X0.here hexec rfl (hb hbytes d19) rfl ?_
          refine X0.aget hexec hB0 rfl (yv_get hB tB (i := i) (by omega)) rfl rfl (hb hbytes d20) ?_
          exact Steps.refl _)
        by_cases hv : yv A i = yv B i
        · have c5 : Steps p.tables e below (s₁.setTop (entryFrame m #[.ref a, .ref b] 3)) (s₁.setTop (mkF m 9 #[.val (.ref a), .val (.ref b), .val (.int (Int32.ofNat i + 1))] [])) := c4.trans (by
            refine XS.icmpYes X0.here hexec rfl (pc0 := 21) rfl (hb hbytes d21) rfl (ii_eq_t hv) (by decide) rfl ?_
            refine iincV X0.here hexec rfl 1 (hb hbytes d26) (by decide) rfl rfl ?_
            refine XS.goto X0.here hexec rfl (pc0 := 29) rfl (hb hbytes d29) (by decide) rfl ?_
            exact Steps.refl _)
          rw [succ32] at c5
          exact ih (i + 1) (by omega) (fun j hj => by
            by_cases e : j = i
            · rw [e]; exact hv
            · exact he j (by omega)) c5
        · exact ⟨25, _, 0, Or.inl rfl, Or.inr ⟨rfl, fun q => hv (q.2 i (by omega))⟩, c4.trans (by
            refine XS.icmpNo X0.here hexec rfl (hb hbytes d21) rfl (ii_eq_f hv) ?_
            refine iconstV X0.here hexec rfl 0 (hb hbytes d24) (by decide) ?_
            exact Steps.refl _)⟩
    obtain ⟨pc, Ls, v, hpc, hv, cz⟩ := loop A.slots.size 0 (by omega) (fun j hj => absurd hj (Nat.not_lt_zero j)) c3
    have nv : narrow .boolean (.int v) = .int v := by rcases hv with ⟨rfl, -⟩ | ⟨rfl, -⟩ <;> rfl
    rcases hpc with rfl | rfl
    · exact ⟨s₁, some (.int v), _, _, _, X0, rfl, rfl, rfl, (fun h => by cases h), ⟨v, rfl, hh0, hv⟩, fun fs hl => cz.trans (X0.ireturnOut hexec hret nv (Or.inr (Or.inl rfl)) (hb hbytes d25) hl)⟩
    · exact ⟨s₁, some (.int v), _, _, _, X0, rfl, rfl, rfl, (fun h => by cases h), ⟨v, rfl, hh0, hv⟩, fun fs hl => cz.trans (X0.ireturnOut hexec hret nv (Or.inr (Or.inl rfl)) (hb hbytes d33) hl)⟩
  · have c3 : Steps p.tables e below (s₁.setTop (entryFrame m #[.ref a, .ref b] 3)) (s₁.setTop (mkF m 35 #[.val (.ref a), .val (.ref b), .unset] [.int 0])) := c2.trans (by
      refine XS.icmpYes X0.here hexec rfl (pc0 := 4) rfl (hb hbytes d4) rfl (ii_ne_t (ne32 a31 b31 hs)) (by decide) rfl ?_
      refine iconstV X0.here hexec rfl 0 (hb hbytes d34) (by decide) ?_
      exact Steps.refl _)
    exact ⟨s₁, some (.int 0), _, _, _, X0, rfl, rfl, rfl, (fun h => by cases h), ⟨0, rfl, hh0, Or.inr ⟨rfl, fun q => hs q.1⟩⟩, fun fs hl => c3.trans (X0.ireturnOut hexec hret rfl (Or.inr (Or.inl rfl)) (hb hbytes d35) hl)⟩
end LEq
theorem Cod.ty {cd : Int32} {n : Nat} {f : Nat → Int32} {V : Cell} (h : Cod cd n f V) : Typed .byte V := fun i v hv => by
  have hi : i < V.slots.size := (Array.getElem?_eq_some_iff.mp hv).1
  rcases h with ⟨-, k1, k2⟩ | ⟨-, k1, k2, -⟩
  · rw [(k2 i (by omega)).1] at hv; cases hv; exact fits_lo8 _
  · rcases Nat.mod_two_eq_zero_or_one i with e | e
    · obtain ⟨j, rfl⟩ : ∃ j, i = 2 * j := ⟨i / 2, by omega⟩
      rw [(k2 j (by omega)).1] at hv; cases hv; exact fits_lo8 _
    · obtain ⟨j, rfl⟩ : ∃ j, i = 2 * j + 1 := ⟨i / 2, by omega⟩
      rw [(k2 j (by omega)).2] at hv; cases hv; exact fits_lo8 _
/-- the same text -/
def SameT (n : Nat) (f : Nat → Int32) (k : Nat) (g : Nat → Int32) : Prop := n = k ∧ ∀ j, j < n → f j = g j
theorem lo8_inj {x y : Int32} (h0 : ¬ x < 0) (h1 : ¬ 255 < x) (k0 : ¬ y < 0) (k1 : ¬ 255 < y) (h : lo8 x = lo8 y) : x = y := by
  rw [← lo8_mask h0 h1, ← lo8_mask k0 k1, h]
/-- arrays coded by one coder are equal just where the texts are -/
theorem Cod.eqv {cd : Int32} {n k : Nat} {f g : Nat → Int32} {V V' : Cell} (h : Cod cd n f V) (h' : Cod cd k g V') (hf : ∀ j, j < n → ¬ f j < 0 ∧ ¬ 65535 < f j) (hg : ∀ j, j < k → ¬ g j < 0 ∧ ¬ 65535 < g j) : EqC V V' ↔ SameT n f k g := by
  have yvv : ∀ {W : Cell} {i : Nat} {x : Int32}, W.slots[i]? = some (.int x) → yv W i = x := fun q => by unfold yv; rw [q]
  rcases h with ⟨rfl, k1, k2⟩ | ⟨rfl, k1, k2, -⟩
  · rcases h' with ⟨-, m1, m2⟩ | ⟨e, -⟩
    · constructor
      · rintro ⟨e1, e2⟩
        refine ⟨by omega, fun j hj => ?_⟩
        have q := e2 j (by omega)
        rw [yvv (k2 j hj).1, yvv (m2 j (by omega)).1] at q
        exact lo8_inj (hf j hj).1 (k2 j hj).2 (hg j (by omega)).1 (m2 j (by omega)).2 q
      · rintro ⟨rfl, e2⟩
        refine ⟨by omega, fun j hj => ?_⟩
        rw [yvv (k2 j (by omega)).1, yvv (m2 j (by omega)).1, e2 j (by omega)]
    · exact absurd e (by decide)
  · rcases h' with ⟨e, -⟩ | ⟨-, m1, m2, -⟩
    · exact absurd e (by decide)
    · constructor
      · rintro ⟨e1, e2⟩
        refine ⟨by omega, fun j hj => ?_⟩
        have q1 := e2 (2 * j) (by omega)
        have q2 := e2 (2 * j + 1) (by omega)
        rw [yvv (k2 j hj).1, yvv (m2 j (by omega)).1] at q1
        rw [yvv (k2 j hj).2, yvv (m2 j (by omega)).2] at q2
        rw [← pair_says (hf j hj).1 (hf j hj).2, ← pair_says (hg j (by omega)).1 (hg j (by omega)).2, q1, q2]
      · rintro ⟨rfl, e2⟩
        refine ⟨by omega, fun i hi => ?_⟩
        rcases Nat.mod_two_eq_zero_or_one i with e | e
        · obtain ⟨j, rfl⟩ : ∃ j, i = 2 * j := ⟨i / 2, by omega⟩
          rw [yvv (k2 j (by omega)).1, yvv (m2 j (by omega)).1, e2 j (by omega)]
        · obtain ⟨j, rfl⟩ : ∃ j, i = 2 * j + 1 := ⟨i / 2, by omega⟩
          rw [yvv (k2 j (by omega)).2, yvv (m2 j (by omega)).2, e2 j (by omega)]
/-- two codings differ: so do the texts -/
theorem Cod.dif {cd cd' : Int32} {n k : Nat} {f g : Nat → Int32} {V V' : Cell} (h : Cod cd n f V) (h' : Cod cd' k g V') (hne : ¬ cd = cd') : ¬ SameT n f k g := by
  rintro ⟨rfl, e⟩
  rcases h with ⟨rfl, -, k2⟩ | ⟨rfl, -, -, j, hj, hw⟩
  · rcases h' with ⟨rfl, -⟩ | ⟨-, -, -, j, hj, hw⟩
    · exact hne rfl
    · exact (k2 j hj).2 (by rw [e j hj]; exact hw)
  · rcases h' with ⟨-, -, m2⟩ | ⟨rfl, -⟩
    · exact (m2 j hj).2 (by rw [← e j hj]; exact hw)
    · exact hne rfl
/-- an object of exactly C is an instance of C -/
theorem cinst {p : Program} {l : Launch} {e : Env} {R : Room} {s : State} {m : MethodId} {args : Array Value} {below : List Frame} {meth : Method} {c : Code} {T : State} {locs : List Loc} {cells slots : Nat} (X : Stand p l e R s m args below meth c T locs cells slots) (hexec : p.tables.exec = Jvm.exec) {own C : String} {index : Nat} (hown : s.vm.findClass own = some m.cls) (hlink : (Cond.classLink own index C).before args s = true) {a : Addr} (hE : Exact C a T)
    {g : JFrame} (hg : g.method = m) {rest : List Value} (hstack : g.stack = .ref a :: rest) (hdg : decode c.code g.pc = .ok (.instanceof index, 3)) :
    ∃ T', Stand p l e R s m args below meth c T' locs cells slots ∧ T'.heap = T.heap ∧ ∀ target, Steps p.tables e below (T'.setTop { g with pc := g.pc + 3, stack := .int 1 :: rest }) target → Steps p.tables e below (T.setTop g) target := by
  obtain ⟨cB, h1, D, h2, h3, h4⟩ := hE
  have h1' : s.vm.findClass C = some cB := by rw [← X.warmed.alike.findClass]; exact h1
  obtain ⟨vm', X', st⟩ := X.instanceofYes hexec hown hlink h2 h4 h1' (by rw [h3]; exact Jvm.Free.SB.assignable_self _ _) hg hstack hdg
  exact ⟨_, X', rfl, st⟩
theorem cself {p : Program} {l : Launch} {e : Env} {R : Room} {s : State} {m : MethodId} {args : Array Value} {below : List Frame} {meth : Method} {c : Code} {T : State} {locs : List Loc} {cells slots : Nat} (X : Stand p l e R s m args below meth c T locs cells slots) (hexec : p.tables.exec = Jvm.exec) {own C : String} {index : Nat} (hown : s.vm.findClass own = some m.cls) (hlink : (Cond.classLink own index C).before args s = true) {a : Addr} (hE : Exact C a T)
    {g : JFrame} (hg : g.method = m) {rest : List Value} (hstack : g.stack = .ref a :: rest) (hdg : decode c.code g.pc = .ok (.checkcast index, 3)) :
    ∃ T', Stand p l e R s m args below meth c T' locs cells slots ∧ T'.heap = T.heap ∧ ∀ target, Steps p.tables e below (T'.setTop { g with pc := g.pc + 3, stack := .ref a :: rest }) target → Steps p.tables e below (T.setTop g) target := by
  obtain ⟨cB, h1, D, h2, h3, h4⟩ := hE
  have h1' : s.vm.findClass C = some cB := by rw [← X.warmed.alike.findClass]; exact h1
  obtain ⟨vm', X', st⟩ := X.checkcastYes hexec hown hlink h2 h4 h1' (by rw [h3]; exact Jvm.Free.SB.assignable_self _ _) hg hstack hdg
  exact ⟨_, X', rfl, fun t h => st t (by rw [← hstack] at h; exact h)⟩
namespace SEq
def yN : MethodName := ⟨"java/lang/String", "equals", "(Ljava/lang/Object;)Z"⟩
abbrev yB : ByteArray := jdk_42_method_66_code
theorem d0 : decode yB 0 = .ok (.aload_n 0, 1) := by decide +kernel
theorem d1 : decode yB 1 = .ok (.aload_n 1, 1) := by decide +kernel
theorem d2 : decode yB 2 = .ok (.if_acmp (.ne) 5, 3) := by decide +kernel
theorem d5 : decode yB 5 = .ok (.iconst 1, 1) := by decide +kernel
theorem d6 : decode yB 6 = .ok (.ireturn, 1) := by decide +kernel
theorem d7 : decode yB 7 = .ok (.aload_n 1, 1) := by decide +kernel
theorem d8 : decode yB 8 = .ok (.instanceof 10, 3) := by decide +kernel
theorem d11 : decode yB 11 = .ok (.ifCond (.eq) 43, 3) := by decide +kernel
theorem d14 : decode yB 14 = .ok (.aload_n 1, 1) := by decide +kernel
theorem d15 : decode yB 15 = .ok (.checkcast 10, 3) := by decide +kernel
theorem d18 : decode yB 18 = .ok (.astore_n 2, 1) := by decide +kernel
theorem d19 : decode yB 19 = .ok (.getstatic 38, 3) := by decide +kernel
theorem d22 : decode yB 22 = .ok (.ifCond (.eq) 14, 3) := by decide +kernel
theorem d25 : decode yB 25 = .ok (.aload_n 0, 1) := by decide +kernel
theorem d26 : decode yB 26 = .ok (.getfield 15, 3) := by decide +kernel
theorem d29 : decode yB 29 = .ok (.aload_n 2, 1) := by decide +kernel
theorem d30 : decode yB 30 = .ok (.getfield 15, 3) := by decide +kernel
theorem d33 : decode yB 33 = .ok (.if_icmp (.ne) 21, 3) := by decide +kernel
theorem d36 : decode yB 36 = .ok (.aload_n 0, 1) := by decide +kernel
theorem d37 : decode yB 37 = .ok (.getfield 9, 3) := by decide +kernel
theorem d40 : decode yB 40 = .ok (.aload_n 2, 1) := by decide +kernel
theorem d41 : decode yB 41 = .ok (.getfield 9, 3) := by decide +kernel
theorem d44 : decode yB 44 = .ok (.invokestatic 541, 3) := by decide +kernel
theorem d47 : decode yB 47 = .ok (.ifCond (.eq) 7, 3) := by decide +kernel
theorem d50 : decode yB 50 = .ok (.iconst 1, 1) := by decide +kernel
theorem d51 : decode yB 51 = .ok (.goto 4, 3) := by decide +kernel
theorem d54 : decode yB 54 = .ok (.iconst 0, 1) := by decide +kernel
theorem d55 : decode yB 55 = .ok (.ireturn, 1) := by decide +kernel
def site : List Cond := [.classLink "java/lang/String" 10 "java/lang/String", .fieldLink "java/lang/String" 38 "java/lang/String" "COMPACT_STRINGS" "Z", .fieldLink "java/lang/String" 15 "java/lang/String" "coder" "B", .fieldLink "java/lang/String" 9 "java/lang/String" "value" "[B", LEq.tab] ++ staticW "java/lang/String" 541 LEq.yN
def tab : Cond := tabOf yN yB 3 (some .boolean) site
def P (x t : Addr) (V : Cell) (cd : Int32) (n : Nat) (f : Nat → Int32) (y t' : Addr) (V' : Cell) (cd' : Int32) (k : Nat) (g : Nat → Int32) (z : Int32) (args : Array Value) (s : State) : Prop := args = #[.ref x, .ref y] ∧ Txt x t V cd n f s ∧ Txt y t' V' cd' k g s ∧ StaticIs s "java/lang/String" "COMPACT_STRINGS" "Z" (.int z) ∧ ¬ z = 0
/-- equals(Object) of two Strings: whether the texts are the same -/
theorem law (l : Launch) (x t : Addr) (V : Cell) (cd : Int32) (n : Nat) (f : Nat → Int32) (y t' : Addr) (V' : Cell) (cd' : Int32) (k : Nat) (g : Nat → Int32) (z : Int32) : Law l yN 2 1 1 14 yB 3 (some .boolean) site (P x t V cd n f y t' V' cd' k g z) (Says01 (SameT n f k g)) [] 0 0 := by
  refine Law.of_walk (plainFor_of_name (by decide +kernel)) (by decide +kernel) (by decide +kernel) (by decide) (fun _ _ h => by rw [h.1]; rfl) (fun _ U U' hal hh h => ⟨h.1, h.2.1.mv hal hh, h.2.2.1.mv hal hh, h.2.2.2.1.there hal hh, h.2.2.2.2⟩) (fun r U U' V V' h1 hal h2 h => Says01.mv r U U' V V' h1 hal h2 h) ?_
  intro p e s m args below meth c s₁ X0 hexec hbytes hml hret hlk hnm hown hh0 W hP
  obtain ⟨rfl, hx, hy, s1, hz⟩ := hP
  have c1 : Steps p.tables e below (s₁.setTop (entryFrame m #[.ref x, .ref y] 3)) (s₁.setTop (mkF m 2 #[.val (.ref x), .val (.ref y), .unset] [.ref y, .ref x])) := Steps.trans (entry rfl) (by
    show Steps p.tables e below (s₁.setTop (mkF m 0 #[.val (.ref x), .val (.ref y), .unset] [])) _
    refine XS.aloadN X0.here hexec rfl (hb hbytes d0) rfl rfl ?_
    refine XS.aloadN X0.here hexec rfl (hb hbytes d1) rfl rfl ?_
    exact Steps.refl _)
  by_cases hxy : x = y
  · have c2 : Steps p.tables e below (s₁.setTop (entryFrame m #[.ref x, .ref y] 3)) (s₁.setTop (mkF m 6 #[.val (.ref x), .val (.ref y), .unset] [.int 1])) := c1.trans (by
      refine acmpNo X0.here hexec rfl (hb hbytes d2) rfl rfl rfl (by simp [acmp, hxy]) ?_
      refine iconstV X0.here hexec rfl 1 (hb hbytes d5) (by decide) ?_
      exact Steps.refl _)
    subst hxy
    have ec : cd = cd' := by
      obtain ⟨D, fd, a1, a2, a3⟩ := hx.2.2.1
      obtain ⟨D', fd', b1, b2, b3⟩ := hy.2.2.1
      cases a1.symm.trans b1
      obtain ⟨q1, q2, q3, q4⟩ := a2.1
      obtain ⟨r1, r2, r3, r4⟩ := b2.1
      cases q4.symm.trans r4
      cases a3.symm.trans b3; rfl
    have et : t = t' := by
      obtain ⟨D, fd, a1, a2, a3⟩ := hx.2.1
      obtain ⟨D', fd', b1, b2, b3⟩ := hy.2.1
      cases a1.symm.trans b1
      obtain ⟨q1, q2, q3, q4⟩ := a2.1
      obtain ⟨r1, r2, r3, r4⟩ := b2.1
      cases q4.symm.trans r4
      cases a3.symm.trans b3; rfl
    subst ec et
    have ev : V = V' := by cases hx.2.2.2.1.1.symm.trans hy.2.2.2.1.1; rfl
    subst ev
    have hs : SameT n f k g := (Cod.eqv hx.2.2.2.2.1 hy.2.2.2.2.1 hx.2.2.2.2.2 hy.2.2.2.2.2).mp ⟨rfl, fun _ _ => rfl⟩
    exact ⟨s₁, some (.int 1), _, _, _, X0, rfl, rfl, rfl, (fun h => by cases h), ⟨1, rfl, hh0, Or.inl ⟨rfl, hs⟩⟩, fun fs hl => c2.trans (X0.ireturnOut hexec hret rfl (Or.inr (Or.inl rfl)) (hb hbytes d6) hl)⟩
  · have c2 : Steps p.tables e below (s₁.setTop (entryFrame m #[.ref x, .ref y] 3)) (s₁.setTop (mkF m 8 #[.val (.ref x), .val (.ref y), .unset] [.ref y])) := c1.trans (by
      refine acmpYes X0.here hexec rfl (pc0 := 2) rfl (hb hbytes d2) rfl rfl rfl (by simp [acmp, hxy]) (by decide) rfl ?_
      refine XS.aloadN X0.here hexec rfl (hb hbytes d7) rfl rfl ?_
      exact Steps.refl _)
    obtain ⟨T3, X3, q3, st3⟩ := cinst X0 hexec hown (wk W (.classLink "java/lang/String" 10 "java/lang/String")) (hy.mv X0.warmed.alike hh0).1 (g := (mkF m 8 #[.val (.ref x), .val (.ref y), .unset] [.ref y])) rfl (rest := []) rfl (hb hbytes d8)
    have hh3 := q3.trans hh0
    have c4 : Steps p.tables e below (s₁.setTop (entryFrame m #[.ref x, .ref y] 3)) (T3.setTop (mkF m 15 #[.val (.ref x), .val (.ref y), .unset] [.ref y])) := (c2.trans (st3 _ (Steps.refl _))).trans (by
      refine XS.ifNo X3.here hexec rfl (hb hbytes d11) rfl (i0_eq_f (by decide)) ?_
      refine XS.aloadN X3.here hexec rfl (hb hbytes d14) rfl rfl ?_
      exact Steps.refl _)
    obtain ⟨T5, X5, q5, st5⟩ := cself X3 hexec hown (wk W (.classLink "java/lang/String" 10 "java/lang/String")) (hy.mv X3.warmed.alike hh3).1 (g := (mkF m 15 #[.val (.ref x), .val (.ref y), .unset] [.ref y])) rfl (rest := []) rfl (hb hbytes d15)
    have hh5 := q5.trans hh3
    have c6 : Steps p.tables e below (s₁.setTop (entryFrame m #[.ref x, .ref y] 3)) (T5.setTop (mkF m 19 #[.val (.ref x), .val (.ref y), .val (.ref y)] [])) := (c4.trans (st5 _ (Steps.refl _))).trans (by
      refine XS.astoreN X5.here hexec rfl (hb hbytes d18) rfl rfl rfl ?_
      exact Steps.refl _)
    obtain ⟨T7, X7, q7, st7⟩ := X5.sget hexec hown (wk W (.fieldLink "java/lang/String" 38 "java/lang/String" "COMPACT_STRINGS" "Z")) s1 (fun _ _ h => by rw [hh5]; exact h) (g := (mkF m 19 #[.val (.ref x), .val (.ref y), .val (.ref y)] [])) rfl (hb hbytes d19)
    have hh7 := q7.trans hh5
    have c8 : Steps p.tables e below (s₁.setTop (entryFrame m #[.ref x, .ref y] 3)) (T7.setTop (mkF m 26 #[.val (.ref x), .val (.ref y), .val (.ref y)] [.ref x])) := (c6.trans (st7 _ (Steps.refl _))).trans (by
      refine XS.ifNo X7.here hexec rfl (hb hbytes d22) rfl (i0_eq_f hz) ?_
      refine XS.aloadN X7.here hexec rfl (hb hbytes d25) rfl rfl ?_
      exact Steps.refl _)
    obtain ⟨T9, X9, q9, st9⟩ := X7.hget hexec hown (wk W (.fieldLink "java/lang/String" 15 "java/lang/String" "coder" "B")) (hx.mv X7.warmed.alike hh7).2.2.1 (g := (mkF m 26 #[.val (.ref x), .val (.ref y), .val (.ref y)] [.ref x])) rfl (rest := []) rfl (hb hbytes d26)
    have hh9 := q9.trans hh7
    have c10 : Steps p.tables e below (s₁.setTop (entryFrame m #[.ref x, .ref y] 3)) (T9.setTop (mkF m 30 #[.val (.ref x), .val (.ref y), .val (.ref y)] [.ref y, .int cd])) := (c8.trans (st9 _ (Steps.refl _))).trans (by
      refine XS.aloadN X9.here hexec rfl (hb hbytes d29) rfl rfl ?_
      exact Steps.refl _)
    obtain ⟨T11, X11, q11, st11⟩ := X9.hget hexec hown (wk W (.fieldLink "java/lang/String" 15 "java/lang/String" "coder" "B")) (hy.mv X9.warmed.alike hh9).2.2.1 (g := (mkF m 30 #[.val (.ref x), .val (.ref y), .val (.ref y)] [.ref y, .int cd])) rfl (rest := [.int cd]) rfl (hb hbytes d30)
    have hh11 := q11.trans hh9
    have c12 : Steps p.tables e below (s₁.setTop (entryFrame m #[.ref x, .ref y] 3)) (T11.setTop (mkF m 33 #[.val (.ref x), .val (.ref y), .val (.ref y)] [.int cd', .int cd])) := c10.trans (st11 _ (Steps.refl _))
    by_cases hcd : cd = cd'
    · subst hcd
      have c13 : Steps p.tables e below (s₁.setTop (entryFrame m #[.ref x, .ref y] 3)) (T11.setTop (mkF m 37 #[.val (.ref x), .val (.ref y), .val (.ref y)] [.ref x])) := c12.trans (by
        refine XS.icmpNo X11.here hexec rfl (hb hbytes d33) rfl (ii_ne_f rfl) ?_
        refine XS.aloadN X11.here hexec rfl (hb hbytes d36) rfl rfl ?_
        exact Steps.refl _)
      obtain ⟨T14, X14, q14, st14⟩ := X11.hget hexec hown (wk W (.fieldLink "java/lang/String" 9 "java/lang/String" "value" "[B")) (hx.mv X11.warmed.alike hh11).2.1 (g := (mkF m 37 #[.val (.ref x), .val (.ref y), .val (.ref y)] [.ref x])) rfl (rest := []) rfl (hb hbytes d37)
      have hh14 := q14.trans hh11
      have c15 : Steps p.tables e below (s₁.setTop (entryFrame m #[.ref x, .ref y] 3)) (T14.setTop (mkF m 41 #[.val (.ref x), .val (.ref y), .val (.ref y)] [.ref y, .ref t])) := (c13.trans (st14 _ (Steps.refl _))).trans (by
        refine XS.aloadN X14.here hexec rfl (hb hbytes d40) rfl rfl ?_
        exact Steps.refl _)
      obtain ⟨T16, X16, q16, st16⟩ := X14.hget hexec hown (wk W (.fieldLink "java/lang/String" 9 "java/lang/String" "value" "[B")) (hy.mv X14.warmed.alike hh14).2.1 (g := (mkF m 41 #[.val (.ref x), .val (.ref y), .val (.ref y)] [.ref y, .ref t])) rfl (rest := [.ref t]) rfl (hb hbytes d41)
      have hh16 := q16.trans hh14
      have c17 : Steps p.tables e below (s₁.setTop (entryFrame m #[.ref x, .ref y] 3)) (T16.setTop (mkF m 44 #[.val (.ref x), .val (.ref y), .val (.ref y)] [.ref t', .ref t])) := c15.trans (st16 _ (Steps.refl _))
      obtain ⟨v18, T18, X18, E18, g18⟩ := X16.callS hexec (LEq.law l t V t' V') hown (wks W (staticW "java/lang/String" 541 LEq.yN)) (wk W LEq.tab) (W := 0) (Nat.le_of_ble_eq_true rfl) (Nat.le_of_ble_eq_true rfl) (Nat.le_refl _) (Nat.le_refl _) (g := (mkF m 44 #[.val (.ref x), .val (.ref y), .val (.ref y)] [.ref t', .ref t])) rfl (by rw [hml]; rfl) c17 (argsL := [.ref t, .ref t']) (rest := []) rfl rfl (by show 2 * 0 + 0 ≤ _; decide) (hb hbytes d44) (⟨rfl, hx.2.2.2.1.mv X16.warmed.alike hh16, hx.2.2.2.2.1.ty, hy.2.2.2.1.mv X16.warmed.alike hh16, hy.2.2.2.2.1.ty⟩)
      obtain ⟨v, rfl, q18, hv⟩ := E18
      have iff := Cod.eqv hx.2.2.2.2.1 hy.2.2.2.2.1 hx.2.2.2.2.2 hy.2.2.2.2.2
      rcases hv with ⟨rfl, he⟩ | ⟨rfl, he⟩
      · have c19 : Steps p.tables e below (s₁.setTop (entryFrame m #[.ref x, .ref y] 3)) (T18.setTop (mkF m 55 #[.val (.ref x), .val (.ref y), .val (.ref y)] [.int 1])) := Steps.trans g18 (by
          refine XS.ifNo X18.here hexec rfl (hb hbytes d47) rfl (i0_eq_f (by decide)) ?_
          refine iconstV X18.here hexec rfl 1 (hb hbytes d50) (by decide) ?_
          refine XS.goto X18.here hexec rfl (pc0 := 51) rfl (hb hbytes d51) (by decide) rfl ?_
          exact Steps.refl _)
        exact ⟨T18, some (.int 1), _, _, _, X18, rfl, rfl, rfl, (fun h => by cases h), ⟨1, rfl, q18.trans hh16, Or.inl ⟨rfl, iff.mp he⟩⟩, fun fs hl => c19.trans (X18.ireturnOut hexec hret rfl (Or.inr (Or.inl rfl)) (hb hbytes d55) hl)⟩
      · have c19 : Steps p.tables e below (s₁.setTop (entryFrame m #[.ref x, .ref y] 3)) (T18.setTop (mkF m 55 #[.val (.ref x), .val (.ref y), .val (.ref y)] [.int 0])) := Steps.trans g18 (by
          refine XS.ifYes X18.here hexec rfl (pc0 := 47) rfl (hb hbytes d47) rfl (i0_eq_t rfl) (by decide) rfl ?_
          refine iconstV X18.here hexec rfl 0 (hb hbytes d54) (by decide) ?_
          exact Steps.refl _)
        exact ⟨T18, some (.int 0), _, _, _, X18, rfl, rfl, rfl, (fun h => by cases h), ⟨0, rfl, q18.trans hh16, Or.inr ⟨rfl, fun q => he (iff.mpr q)⟩⟩, fun fs hl => c19.trans (X18.ireturnOut hexec hret rfl (Or.inr (Or.inl rfl)) (hb hbytes d55) hl)⟩
    · have c13 : Steps p.tables e below (s₁.setTop (entryFrame m #[.ref x, .ref y] 3)) (T11.setTop (mkF m 55 #[.val (.ref x), .val (.ref y), .val (.ref y)] [.int 0])) := c12.trans (by
        refine XS.icmpYes X11.here hexec rfl (pc0 := 33) rfl (hb hbytes d33) rfl (ii_ne_t hcd) (by decide) rfl ?_
        refine iconstV X11.here hexec rfl 0 (hb hbytes d54) (by decide) ?_
        exact Steps.refl _)
      exact ⟨T11, some (.int 0), _, _, _, X11, rfl, rfl, rfl, (fun h => by cases h), ⟨0, rfl, hh11, Or.inr ⟨rfl, Cod.dif hx.2.2.2.2.1 hy.2.2.2.2.1 hcd⟩⟩, fun fs hl => c13.trans (X11.ireturnOut hexec hret rfl (Or.inr (Or.inl rfl)) (hb hbytes d55) hl)⟩
theorem pays {l : Launch} {R : Room} {p : Program} {e : Env} {below : List Frame} {s : State} {sargs : Array Value} {len W : Nat} (x t : Addr) (V : Cell) (cd : Int32) (n : Nat) (f : Nat → Int32) (y t' : Addr) (V' : Cell) (cd' : Int32) (k : Nat) (g : Nat → Int32) (z : Int32) (htab : tab.before sargs s = true) (hfr : 2 ≤ R.frames) (hlo : W + 28 ≤ R.locals) :
    Back l R p e below s sargs yN len W (fun A₁ a₁ => A₁.cells + 0 ≤ R.cells ∧ A₁.slots + 0 ≤ R.slots ∧ P x t V cd n f y t' V' cd' k g z a₁ A₁.U) (fun A₁ _ v₁ B₁ => Says01 (SameT n f k g) v₁ A₁.U B₁.U ∧ B₁.locs = A₁.locs ++ [] ∧ B₁.cells = A₁.cells + 0 ∧ B₁.slots = A₁.slots + 0) :=
  (law l x t V cd n f y t' V' cd' k g z).pays htab hfr (by omega)
end SEq
end StrChars
namespace StrChars.Road
open Jvm Sem ClassFile Op Lib Jvm.Stand Jvm.Free Jvm.Free.XT
open Jvm.Lib.Cold (StaticIs)
/-- the words of String.equals(Object) -/
abbrev wordsEq : List Jvm.Cond := [.code SEq.yN SEq.yB 3 (some .boolean), .initialized ST, .classLink ST 10 ST, .fieldLink ST 38 ST "COMPACT_STRINGS" "Z", .fieldLink ST 15 ST "coder" "B", .fieldLink ST 9 ST "value" "[B", .methodLink ST 541 LEq.yN, .static LEq.yN, .code LEq.yN LEq.yB 3 (some .boolean), .initialized "java/lang/StringLatin1"]
theorem tabEq_of {a : Array Value} {s : State} (h : ∀ w ∈ wordsEq, w.before a s = true) : SEq.tab.before a s = true := by
  have hl : LEq.tab.before a s = true := unparts (wk h (.code LEq.yN LEq.yB 3 (some .boolean))) (wks h (.initialized LEq.yN.cls :: LEq.site))
  have q := consq hl h
  exact unparts (wk q (.code SEq.yN SEq.yB 3 (some .boolean))) (wks q (.initialized SEq.yN.cls :: SEq.site))
theorem movedEq {Z s : State} {a0 args : Array Value} (hZ : Z.Warmed39 s.vm) (hw : ∀ d ∈ wordsEq, d.before a0 Z = true) : ∀ d ∈ wordsEq, d.before args s = true := fun d hd => by
  have t : ∀ d ∈ wordsEq, (d.onTables && d.keepsFace) = true := by decide +kernel
  exact RoadKit.mv hZ (hw d hd) (t d hd)
/-- the road's facts of a String, as the laws ask it -/
theorem txt_of {Z U : State} {a0 : Array Value} {kI : Nat} (wi : (Jvm.Cond.instantiable ST kI).before a0 Z = true) (al : Z.vm.Alike U.vm) {x t : Addr} {kb : ClassId} {cs : List Int32} {cd N2 : Int32} {vs : List Value} (E : RoadKit.Exa Z U.heap x ST) (V : RoadKit.Fld Z U.heap x ST "value" "[B" (.ref t)) (C : RoadKit.Fld Z U.heap x ST "coder" "B" (.int cd)) (K : RoadKit.Arv Z U.heap t kb .byte N2 vs (.int 0)) (hc : CodA cs cd N2 vs) (hb : ∀ c ∈ cs, ¬ c < 0 ∧ ¬ (65535 : Int32) < c) (l2 : cs.length ≤ 4000) :
    ∃ A, Txt x t A cd cs.length (fun j => cs.getD j 0) U := by
  obtain ⟨A, K1, K2, K3, K4, K5, K6⟩ := K
  have hcod := hc.cod (by omega) K3 K5
  obtain ⟨D, fV, fC, hB, F1, F2, g1, g2, -, -⟩ := strObj wi al E V C
  exact ⟨A, ⟨_, hB.2.2.1, D, hB.1, rfl, by cases q : D.vm <;> first | rfl | exact absurd q (hB.2.1.2 _)⟩, Has.of hB F1 g1, Has.of hB F2 g2, ⟨K1.1, State.isArrayOf_alike al K1.2.1, K1.2.2, by rcases hcod with ⟨-, q, -⟩ | ⟨-, q, -⟩ <;> omega⟩, hcod, fun j hj => by
    have e : cs.getD j 0 = cs[j] := by simp [List.getD_eq_getElem?_getD, hj]
    show ¬ cs.getD j 0 < 0 ∧ ¬ 65535 < cs.getD j 0
    rw [e]; exact hb _ (List.getElem_mem _)⟩
theorem same_list (cs ds : List Int32) : SameT cs.length (fun j => cs.getD j 0) ds.length (fun j => ds.getD j 0) ↔ cs = ds := by
  constructor
  · rintro ⟨e, q⟩
    refine List.ext_getElem e fun j h1 h2 => ?_
    have := q j h1
    simpa [List.getD_eq_getElem?_getD, h1, h2] using this
  · rintro rfl
    exact ⟨rfl, fun _ _ => rfl⟩
/-- **equals(Object) OF TWO SUCH STRINGS**: 1 just where the chars are the same -/
theorem eqW {p : Program} {l : Launch} {e : Env} {R : Room} {s : State} {args : Array Value} {below : List Frame} {len W : Nat} {Z : State} {a0 : Array Value} {h : Heap} (hZ : Z.Warmed39 s.vm) (hw : ∀ d ∈ wordsEq, d.before a0 Z = true) {kI : Nat} (wi : (Jvm.Cond.instantiable ST kI).before a0 Z = true)
    {x t : Addr} {kb : ClassId} {cs : List Int32} {cd N2 : Int32} {vs : List Value} (E : RoadKit.Exa Z h x ST) (V : RoadKit.Fld Z h x ST "value" "[B" (.ref t)) (C : RoadKit.Fld Z h x ST "coder" "B" (.int cd)) (K : RoadKit.Arv Z h t kb .byte N2 vs (.int 0)) (hc : CodA cs cd N2 vs) (hb : ∀ c ∈ cs, ¬ c < 0 ∧ ¬ (65535 : Int32) < c) (l2 : cs.length ≤ 4000)
    {y t' : Addr} {kb' : ClassId} {ds : List Int32} {cd' N2' : Int32} {vs' : List Value} (E' : RoadKit.Exa Z h y ST) (V' : RoadKit.Fld Z h y ST "value" "[B" (.ref t')) (C' : RoadKit.Fld Z h y ST "coder" "B" (.int cd')) (K' : RoadKit.Arv Z h t' kb' .byte N2' vs' (.int 0)) (hc' : CodA ds cd' N2' vs') (hb' : ∀ c ∈ ds, ¬ c < 0 ∧ ¬ (65535 : Int32) < c) (l2' : ds.length ≤ 4000)
    {z : Int32} (S : RoadKit.Sta Z h ST "COMPACT_STRINGS" "Z" (.int z)) (hz : ¬ z = 0) (hfr : 2 ≤ R.frames) (hlo : W + 28 ≤ R.locals) :
    Back l R p e below s args (⟨"java/lang/String", "equals", "(Ljava/lang/Object;)Z"⟩ : MethodName) len W (fun P a => a = #[.ref x, .ref y] ∧ P.U.heap = h ∧ P.cells + 0 ≤ R.cells ∧ P.slots + 0 ≤ R.slots)
      (fun P _ v B => ∃ L, (((v = some (.int 1) ∧ cs = ds) ∨ (v = some (.int 0) ∧ ¬ cs = ds)) ∧ L = [] ∧ B.U.heap = h) ∧ B.locs = P.locs ++ L ∧ B.cells = P.cells + 0 ∧ B.slots = P.slots + 0) := by
  intro m meth c P g ig mk a X hg hsize hdg hW hn hp'
  obtain ⟨rfl, rfl, r1, r2⟩ := hp'
  have al : Z.vm.Alike P.U.vm := hZ.alike.trans X.warmed.alike
  obtain ⟨A, hx⟩ := txt_of wi al E V C K hc hb l2
  obtain ⟨A', hy⟩ := txt_of wi al E' V' C' K' hc' hb' l2'
  obtain ⟨v, B, X', ⟨⟨w, hv, hh, hq⟩, hl, hk, hs⟩, st⟩ := SEq.pays x t A cd cs.length (fun j => cs.getD j 0) y t' A' cd' ds.length (fun j => ds.getD j 0) z (tabEq_of (movedEq hZ hw)) hfr hlo m meth c P g ig mk _ X hg hsize hdg hW hn ⟨r1, r2, rfl, hx, hy, sta_is al S, hz⟩
  refine ⟨v, B, X', ⟨[], ⟨?_, rfl, hh⟩, hl, hk, hs⟩, st⟩
  rcases hq with ⟨rfl, q⟩ | ⟨rfl, q⟩
  · exact Or.inl ⟨hv, (same_list cs ds).mp q⟩
  · exact Or.inr ⟨hv, fun e => q ((same_list cs ds).mpr e)⟩
end StrChars.Road
namespace StrChars
open Jvm Sem ClassFile Op Lib Jvm.Stand Jvm.Free.XT Jvm.Free.ALB Jvm.Free.JM Jvm.Free
open Jvm.Lib.Cold (StaticIs)
namespace ChN
def yN : MethodName := ⟨"java/lang/String", "charAt", "(I)C"⟩
abbrev yB : ByteArray := jdk_42_method_56_code
theorem d0 : decode yB 0 = .ok (.aload_n 0, 1) := by decide +kernel
theorem d1 : decode yB 1 = .ok (.invokevirtual 492, 3) := by decide +kernel
theorem d4 : decode yB 4 = .ok (.ifCond (.eq) 12, 3) := by decide +kernel
theorem d7 : decode yB 7 = .ok (.aload_n 0, 1) := by decide +kernel
theorem d8 : decode yB 8 = .ok (.getfield 9, 3) := by decide +kernel
theorem d11 : decode yB 11 = .ok (.iload_n 1, 1) := by decide +kernel
theorem d12 : decode yB 12 = .ok (.invokestatic 495, 3) := by decide +kernel
theorem d15 : decode yB 15 = .ok (.ireturn, 1) := by decide +kernel
def site : List Cond := [.fieldLink "java/lang/String" 9 "java/lang/String" "value" "[B", IsL.tab, LChA.tab] ++ virtW "java/lang/String" 492 "java/lang/String" IsL.yN IsL.yN ++ staticW "java/lang/String" 495 LChA.yN
def tab : Cond := tabOf yN yB 2 (some .char) site
def P (x t : Addr) (V : Cell) (n : Nat) (f : Nat → Int32) (z : Int32) (fm : Value) (i : Nat) (args : Array Value) (s : State) : Prop := args = #[.ref x, .int (Int32.ofNat i)] ∧ Txt x t V 0 n f s ∧ i < n ∧ StaticIs s "java/lang/String" "COMPACT_STRINGS" "Z" (.int z) ∧ ¬ z = 0 ∧ StaticIs s "jdk/internal/util/Preconditions" "SIOOBE_FORMATTER" "Ljava/util/function/BiFunction;" fm ∧ fm.isRef = true
def E (f : Nat → Int32) (i : Nat) (r : Option Value) (s u : State) : Prop := XT.PureE (some (.int (f i))) r s u
/-- charAt(i) of a Latin-1 String of n chars, i < n: f i -/
theorem law (l : Launch) (x t : Addr) (V : Cell) (n : Nat) (f : Nat → Int32) (z : Int32) (fm : Value) (i : Nat) : Law l yN 2 1 3 40 yB 2 (some .char) site (P x t V n f z fm i) (E f i) [] 0 0 := by
  refine Law.of_walk (plainFor_of_name (by decide +kernel)) (by decide +kernel) (by decide +kernel) (by decide) (fun _ _ h => by rw [h.1]; rfl) (fun _ U U' hal hh h => ⟨h.1, h.2.1.mv hal hh, h.2.2.1, h.2.2.2.1.there hal hh, h.2.2.2.2.1, h.2.2.2.2.2.1.there hal hh, h.2.2.2.2.2.2⟩) (fun r U U' V V' h1 hal h2 h => XT.PureE.mv r U U' V V' h1 hal h2 h) ?_
  intro p e s m args below meth c s₁ X0 hexec hbytes hml hret hlk hnm hown hh0 W hP
  obtain ⟨rfl, hx, hi, s1, hz, s3, rf⟩ := hP
  have v31 := hx.2.2.2.1.2.2.2
  have hr := hx.2.2.2.2.2 i hi
  have hx0 := hx.mv X0.warmed.alike hh0
  have c1 : Steps p.tables e below (s₁.setTop (entryFrame m #[.ref x, .int (Int32.ofNat i)] 2)) (s₁.setTop (mkF m 1 #[.val (.ref x), .val (.int (Int32.ofNat i))] [.ref x])) := Steps.trans (entry rfl) (by
    show Steps p.tables e below (s₁.setTop (mkF m 0 #[.val (.ref x), .val (.int (Int32.ofNat i))] [])) _
    refine XS.aloadN X0.here hexec rfl (hb hbytes d0) rfl rfl ?_
    exact Steps.refl _)
  obtain ⟨v2, T2, X2, E2, g2⟩ := X0.callV hexec (IsL.law l x 0 z) hown (wks W (virtW "java/lang/String" 492 "java/lang/String" IsL.yN IsL.yN)) rfl (by decide) (wk W IsL.tab) (W := 0) (Nat.le_of_ble_eq_true rfl) (Nat.le_of_ble_eq_true rfl) (Nat.le_refl _) (Nat.le_refl _) (hx0.1.fc X0.warmed.alike) hx0.1.is (g := (mkF m 1 #[.val (.ref x), .val (.int (Int32.ofNat i))] [.ref x])) rfl (by rw [hml]; rfl) c1 (argsL := []) (rest := []) rfl rfl (by show 2 * 0 + 0 ≤ _; decide) (hb hbytes d1) (⟨rfl, hx0.2.2.1, hx.2.2.2.2.1.cd, s1.there X0.warmed.alike hh0, hz⟩)
  obtain ⟨rfl, q2⟩ := E2
  have hh2 := q2.trans hh0
  have hx2 := hx.mv X2.warmed.alike hh2
  obtain ⟨-, k1, k2⟩ | ⟨k0, -⟩ := hx.2.2.2.2.1
  · have c3 : Steps p.tables e below (s₁.setTop (entryFrame m #[.ref x, .int (Int32.ofNat i)] 2)) (T2.setTop (mkF m 8 #[.val (.ref x), .val (.int (Int32.ofNat i))] [.ref x])) := Steps.trans g2 (by
      refine XS.ifNo X2.here hexec rfl (hb hbytes d4) rfl (i0_eq_f (by decide)) ?_
      refine XS.aloadN X2.here hexec rfl (hb hbytes d7) rfl rfl ?_
      exact Steps.refl _)
    obtain ⟨T4, X4, q4, st4⟩ := X2.hget hexec hown (wk W (.fieldLink "java/lang/String" 9 "java/lang/String" "value" "[B")) hx2.2.1 (g := (mkF m 8 #[.val (.ref x), .val (.int (Int32.ofNat i))] [.ref x])) rfl (rest := []) rfl (hb hbytes d8)
    have hh4 := q4.trans hh2
    have c5 : Steps p.tables e below (s₁.setTop (entryFrame m #[.ref x, .int (Int32.ofNat i)] 2)) (T4.setTop (mkF m 12 #[.val (.ref x), .val (.int (Int32.ofNat i))] [.int (Int32.ofNat i), .ref t])) := (c3.trans (st4 _ (Steps.refl _))).trans (by
      refine XS.iloadN X4.here hexec rfl (hb hbytes d11) rfl ?_
      exact Steps.refl _)
    obtain ⟨v6, T6, X6, E6, g6⟩ := X4.callS hexec (LChA.law l t V i (lo8 (f i)) fm) hown (wks W (staticW "java/lang/String" 495 LChA.yN)) (wk W LChA.tab) (W := 0) (Nat.le_of_ble_eq_true rfl) (Nat.le_of_ble_eq_true rfl) (Nat.le_refl _) (Nat.le_refl _) (g := (mkF m 12 #[.val (.ref x), .val (.int (Int32.ofNat i))] [.int (Int32.ofNat i), .ref t])) rfl (by rw [hml]; rfl) c5 (argsL := [.ref t, .int (Int32.ofNat i)]) (rest := []) rfl rfl (by show 2 * 0 + 0 ≤ _; decide) (hb hbytes d12) (⟨rfl, hx.2.2.2.1.mv X4.warmed.alike hh4, (k2 i hi).1, s3.there X4.warmed.alike hh4, rf⟩)
    obtain ⟨rfl, q6⟩ := E6
    rw [chr8_lo8 hr.1 (k2 i hi).2] at g6
    exact ⟨T6, some (.int (f i)), _, _, _, X6, rfl, rfl, rfl, (fun h => by cases h), ⟨rfl, q6.trans hh4⟩, fun fs hl => Steps.trans g6 (X6.ireturnOut hexec hret (narrow_ch hr.1 hr.2) (Or.inr (Or.inr (Or.inr (Or.inl rfl)))) (hb hbytes d15) hl)⟩
  · exact absurd k0 (by decide)
theorem pays {l : Launch} {R : Room} {p : Program} {e : Env} {below : List Frame} {s : State} {sargs : Array Value} {len W : Nat} (x t : Addr) (V : Cell) (n : Nat) (f : Nat → Int32) (z : Int32) (fm : Value) (i : Nat) (htab : tab.before sargs s = true) (hfr : 4 ≤ R.frames) (hlo : W + 53 ≤ R.locals) :
    Back l R p e below s sargs yN len W (fun A₁ a₁ => A₁.cells + 0 ≤ R.cells ∧ A₁.slots + 0 ≤ R.slots ∧ P x t V n f z fm i a₁ A₁.U) (fun A₁ _ v₁ B₁ => E f i v₁ A₁.U B₁.U ∧ B₁.locs = A₁.locs ++ [] ∧ B₁.cells = A₁.cells + 0 ∧ B₁.slots = A₁.slots + 0) :=
  (law l x t V n f z fm i).pays htab hfr (by omega)
end ChN
end StrChars
namespace StrChars.Road
open Jvm Sem ClassFile Op Lib Jvm.Stand Jvm.Free Jvm.Free.XT
open Jvm.Lib.Cold (StaticIs)
/-- the words of String.charAt(int), the Latin-1 road alone -/
abbrev wordsChN : List Jvm.Cond := [.code ChN.yN ChN.yB 2 (some .char), .initialized ST, .fieldLink ST 9 ST "value" "[B", .fieldLink ST 38 ST "COMPACT_STRINGS" "Z", .fieldLink ST 15 ST "coder" "B", .code IsL.yN IsL.yB 1 (some .boolean), .methodLink ST 492 IsL.yN, .declares IsL.yN, .selects ST IsL.yN IsL.yN, .instanceMethod IsL.yN,
  .methodLink ST 495 LChA.yN, .static LChA.yN, .code LChA.yN LChA.yB 2 (some .char), .initialized "java/lang/StringLatin1", .methodLink "java/lang/StringLatin1" 9 JO.Str_checkIndex.yN, .static JO.Str_checkIndex.yN, .code JO.Str_checkIndex.yN JO.Str_checkIndex.yB 2 none,
  .fieldLink ST 1053 "jdk/internal/util/Preconditions" "SIOOBE_FORMATTER" "Ljava/util/function/BiFunction;", .methodLink ST 1059 JC.PreCheck.yN, .static JC.PreCheck.yN, .code JC.PreCheck.yN JC.PreCheck.yB 3 (some .int), .initialized "jdk/internal/util/Preconditions"]
theorem tabChN_of {a : Array Value} {s : State} (h : ∀ w ∈ wordsChN, w.before a s = true) : ChN.tab.before a s = true := by
  have hp : JC.PreCheck.tab.before a s = true := unparts (wk h (.code JC.PreCheck.yN JC.PreCheck.yB 3 (some .int))) (wks h (.initialized JC.PreCheck.yN.cls :: JC.PreCheck.site))
  have qk := consq hp h
  have hk : JO.Str_checkIndex.tab.before a s = true := unparts (wk qk (.code JO.Str_checkIndex.yN JO.Str_checkIndex.yB 2 none)) (wks qk (.initialized JO.Str_checkIndex.yN.cls :: JO.Str_checkIndex.site))
  have ql := consq hk h
  have hl : LChA.tab.before a s = true := unparts (wk ql (.code LChA.yN LChA.yB 2 (some .char))) (wks ql (.initialized LChA.yN.cls :: LChA.site))
  have hi : IsL.tab.before a s = true := unparts (wk h (.code IsL.yN IsL.yB 1 (some .boolean))) (wks h (.initialized IsL.yN.cls :: IsL.site))
  have q := consq hi (consq hl h)
  exact unparts (wk q (.code ChN.yN ChN.yB 2 (some .char))) (wks q (.initialized ChN.yN.cls :: ChN.site))
theorem movedChN {Z s : State} {a0 args : Array Value} (hZ : Z.Warmed39 s.vm) (hw : ∀ d ∈ wordsChN, d.before a0 Z = true) : ∀ d ∈ wordsChN, d.before args s = true := fun d hd => by
  have t : ∀ d ∈ wordsChN, (d.onTables && d.keepsFace) = true := by decide +kernel
  exact RoadKit.mv hZ (hw d hd) (t d hd)
/-- **charAt(i) OF A LATIN-1 STRING**, i < n: the char -/
theorem chN {p : Program} {l : Launch} {e : Env} {R : Room} {s : State} {args : Array Value} {below : List Frame} {len W : Nat} {Z : State} {a0 : Array Value} {h : Heap} (hZ : Z.Warmed39 s.vm) (hw : ∀ d ∈ wordsChN, d.before a0 Z = true) {kI : Nat} (wi : (Jvm.Cond.instantiable ST kI).before a0 Z = true)
    {x t : Addr} {kb : ClassId} {cs : List Int32} {N2 z : Int32} {vs : List Value} {fm : Value} {i : Nat} {j : Int32} (E : RoadKit.Exa Z h x ST) (V : RoadKit.Fld Z h x ST "value" "[B" (.ref t)) (C : RoadKit.Fld Z h x ST "coder" "B" (.int 0)) (K : RoadKit.Arv Z h t kb .byte N2 vs (.int 0)) (hc : CodA cs 0 N2 vs) (hb : ∀ c ∈ cs, ¬ c < 0 ∧ ¬ (65535 : Int32) < c)
    (S : RoadKit.Sta Z h ST "COMPACT_STRINGS" "Z" (.int z)) (hz : ¬ z = 0) (F : RoadKit.Sta Z h "jdk/internal/util/Preconditions" "SIOOBE_FORMATTER" "Ljava/util/function/BiFunction;" fm) (rf : fm.isRef = true) (l2 : cs.length ≤ 4000) (hi : i < cs.length) (hj : j = Int32.ofNat i) (hfr : 4 ≤ R.frames) (hlo : W + 53 ≤ R.locals) :
    Back l R p e below s args (⟨"java/lang/String", "charAt", "(I)C"⟩ : MethodName) len W (fun P a => a = #[.ref x, .int j] ∧ P.U.heap = h ∧ P.cells + 0 ≤ R.cells ∧ P.slots + 0 ≤ R.slots)
      (fun P _ v B => ∃ L, (v = some (.int (cs.getD i 0)) ∧ L = [] ∧ B.U.heap = h) ∧ B.locs = P.locs ++ L ∧ B.cells = P.cells + 0 ∧ B.slots = P.slots + 0) := by
  subst hj
  intro m meth c P g ig mk a X hg hsize hdg hW hn hp'
  obtain ⟨rfl, rfl, r1, r2⟩ := hp'
  have al : Z.vm.Alike P.U.vm := hZ.alike.trans X.warmed.alike
  obtain ⟨A, hx⟩ := txt_of wi al E V C K hc hb l2
  obtain ⟨v, B, X', ⟨⟨hv, hh⟩, hl, hk, hs⟩, st⟩ := ChN.pays x t A cs.length (fun j => cs.getD j 0) z fm i (tabChN_of (movedChN hZ hw)) hfr hlo m meth c P g ig mk _ X hg hsize hdg hW hn ⟨r1, r2, rfl, hx, hi, sta_is al S, hz, sta_is al F, rf⟩
  exact ⟨v, B, X', ⟨[], ⟨hv, rfl, hh⟩, hl, hk, hs⟩, st⟩
/-- what backV says of its String, as the contracts of this text ask it: cs's low bytes, coder 0 -/
theorem codOf {cs : List Int32} {n : Nat} (hn : cs.length = n) (hb : ∀ c ∈ cs, ¬ 255 < c) : CodA cs 0 (Int32.ofNat n) ((cs.map lo8).map Value.int) := Or.inl ⟨rfl, by rw [hn], by simp [List.map_map, Function.comp_def], hb⟩
end StrChars.Road
end Jvm.Pilot.@@N@@
namespace Jvm.Pilot.@@N@@
open Jvm Jvm.ClassFile Sem Op Lib Jvm.Free Jvm.Stand Jvm.LawKit Jvm.RoadKit Bundle Jvm.Pilot.@@N@@.Jvm.D
theorem own_eqint {args : Array Value} {s : State} {t : Term} {k : Int32} (h : (Jvm.Cond.eq t (.int k)).value args s none s [] = some true) : t.eval args s none [] s = some (.int k) := by
  simp only [Cond.value, Term.eval] at h
  cases ht : t.eval args s none [] s with
  | none => simp [ht] at h
  | some x => cases x <;> simp [ht] at h ⊢; exact h

def own_OC (Z : State) (EL : List (String × Nat)) (vm : Vm) (h : Heap) (n0 : Nat) : Prop := CHv Z EL vm h ∧ ∀ y, Bk Z EL vm h y → y < n0
theorem own_OC_ext {Z : State} {EL : List (String × Nat)} {vm : Vm} {h h' : Heap} {n0 : Nat} (H : own_OC Z EL vm h n0) (E : Ext h h') : own_OC Z EL vm h' n0 := ⟨H.1.ext E, fun y q => H.2 y ((H.1.step fun _ _ _ q => E.2 _ _ q).2 y q)⟩
theorem own_OC_safe {Z : State} {EL : List (String × Nat)} {vm : Vm} {h : Heap} {n0 : Nat} (H : own_OC Z EL vm h n0) {a : Addr} (g : n0 ≤ a) : Safe Z EL vm h a := fun B => absurd (H.2 a B) (Nat.not_lt.mpr g)
theorem own_OC_wr {Z : State} {EL : List (String × Nat)} {vm : Vm} {h h' : Heap} {n0 : Nat} (H : own_OC Z EL vm h n0) {a : Addr} {sl : Nat} {v : Value} (W : Wr h h' a sl v) (g : n0 ≤ a) : own_OC Z EL vm h' n0 := ⟨H.1.wr W (own_OC_safe H g), fun y q => H.2 y ((H.1.wrStep W (own_OC_safe H g)).2 y q)⟩
theorem own_OC_keep {Z : State} {EL : List (String × Nat)} {vm : Vm} {h h' : Heap} {n0 : Nat} (H : own_OC Z EL vm h n0) {ws : List Addr} (K : Keep h h' ws) (g : ∀ x ∈ ws, n0 ≤ x) : own_OC Z EL vm h' n0 := ⟨H.1.keep K fun x hx => own_OC_safe H (g x hx), fun y q => H.2 y ((H.1.keepStep K fun x hx => own_OC_safe H (g x hx)).2 y q)⟩
theorem own_OC_start {Z : State} {EL : List (String × Nat)} (H : CHv Z EL Z.vm Z.heap) : own_OC Z EL Z.vm Z.heap Z.heap.size := ⟨H, fun y B => by
  obtain ⟨cell, q⟩ := B.there
  exact (Array.getElem?_eq_some_iff.mp q).1⟩
theorem own_OC_at {p : Program} {l : Launch} {e : Env} {R : Room} {s : State} {m : MethodId} {args : Array Value} {below : List Frame} {meth : Method} {c : Code} {T : State} {locs : List Loc} {cells slots : Nat} {Z : State} {a0 : Array Value} {EL : List (String × Nat)} {h : Heap} {vm0 : Vm} {n0 : Nat} (X : Stand p l e R (s.setVm vm0) m args below meth c T locs cells slots) (hZ : Z.Warmed39 vm0) (w : EW Z a0 EL) (H : own_OC Z EL vm0 h n0) : own_OC Z EL T.vm h n0 := by
  have A := CHv.at X hZ w H.1
  refine ⟨A.1, fun y B => ?_⟩
  rcases A.2.2 y B with q | q
  · exact H.2 y q
  · obtain ⟨cell, r⟩ := B.there
    exact absurd (Array.getElem?_eq_some_iff.mp r).1 (Nat.not_lt.mpr q)
theorem own_backW {p : Program} {l : Launch} {e : Env} {R : Room} {s : State} {args : Array Value} {below : List Frame} {Z : State} {a0 : Array Value} {EL : List (String × Nat)} {h : Heap} {vm0 : Vm} {n0 : Nat} {y : MethodName} {bytes : ByteArray} {maxL : Nat} {ret : Option FieldType} {rm : Room} {len W : Nat} {as' : Array Value} {Q : Option Value → Heap → List Loc → Prop}
    (hM : MetFree l y (head1 [Jvm.Cond.code y bytes maxL ret] rm) (fun a U => a = as' ∧ Z.Warmed39 U.vm ∧ U.heap = h ∧ own_OC Z EL U.vm h n0) (fun _ _ _ _ _ => True) (fun _ U o U' => ∃ v L, o = .returned v ∧ Q v U'.heap L ∧ ReturnedEndW U o U' L rm.cells rm.slots))
    (hZ : Z.Warmed39 vm0) (wc : (Jvm.Cond.code y bytes maxL ret).before a0 Z = true) (wz : (Jvm.Cond.initialized y.cls).before a0 Z = true) (hf : rm.frames + 1 ≤ R.frames) (hl : W + (maxL + 11) + rm.locals ≤ R.locals) (hEL : EW Z a0 EL) (H : own_OC Z EL vm0 h n0) :
    BackS l R p e below (s.setVm vm0) args y len W (fun A a => a = as' ∧ A.U.heap = h ∧ A.cells + rm.cells ≤ R.cells ∧ A.slots + rm.slots ≤ R.slots)
      (fun A _ v B => ∃ L, Q v B.U.heap L ∧ B.locs = A.locs ++ L ∧ B.cells = A.cells + rm.cells ∧ B.slots = A.slots + rm.slots) :=
  BackS.of_freeW (bytes := bytes) (maxL := maxL) (ret := ret) (E := fun _ _ o t L k n => k = rm.cells ∧ n = rm.slots ∧ ∃ v, o = .returned v ∧ Q v t.heap L) hM hf hl
    (fun m meth c A a Y hp => have hU : Z.Warmed39 A.U.vm := wtrans (s := s.setVm vm0) hZ Y.warmed
      ⟨by show (Jvm.Cond.and _ .tt).before a A.U = true; rw [Cond.before_and, mv hU wc]; rfl, mv hU wc, mv hU wz, hp.2.2.1, hp.2.2.2⟩)
    (fun m meth c A a g mk Y hp => ⟨hp.1, wtrans (s := s.setVm vm0) hZ Y.warmed, hp.2.1, (show own_OC Z EL A.U.vm h n0 from own_OC_at Y hZ hEL H)⟩) (fun _ _ _ _ _ _ _ _ _ => trivial)
    (fun _ _ _ _ ⟨v, L, h1, h2, h3⟩ => ⟨L, _, _, h3, rfl, rfl, v, h1, h2⟩)
    (fun m meth c A a g mk v t L k n Y hp _ _ ⟨e1, e2, v', e3, e4⟩ => by cases e3; subst e1 e2; exact ⟨L, e4, rfl, rfl, rfl⟩)

theorem own_OC_now {Z : State} {EL : List (String × Nat)} {vm : Vm} {h : Heap} (H : CHv Z EL vm h) : own_OC Z EL vm h h.size := ⟨H, fun y B => by
  obtain ⟨cell, q⟩ := B.there
  exact (Array.getElem?_eq_some_iff.mp q).1⟩
theorem own_backWR {p : Program} {l : Launch} {e : Env} {R : Room} {s : State} {args : Array Value} {below : List Frame} {Z : State} {a0 : Array Value} {EL : List (String × Nat)} {h : Heap} {vm0 : Vm} {n0 : Nat} {y : MethodName} {bytes : ByteArray} {maxL : Nat} {ret : Option FieldType} {rm : Room} {len W : Nat} {as' : Array Value} {Q : Option Value → Heap → List Loc → Prop}
    (hM : MetFree l y (head1 [Jvm.Cond.code y bytes maxL ret] rm) (fun a U => a = as' ∧ Z.Warmed39 U.vm ∧ U.heap = h ∧ own_OC Z EL U.vm h n0) (fun _ _ _ _ _ => True) (fun _ U o U' => ∃ v L, o = .returned v ∧ Q v U'.heap L ∧ CHr Z EL U.vm U.heap U'.vm U'.heap ∧ ReturnedEndW U o U' L rm.cells rm.slots))
    (hZ : Z.Warmed39 vm0) (wc : (Jvm.Cond.code y bytes maxL ret).before a0 Z = true) (wz : (Jvm.Cond.initialized y.cls).before a0 Z = true) (hf : rm.frames + 1 ≤ R.frames) (hl : W + (maxL + 11) + rm.locals ≤ R.locals) (hEL : EW Z a0 EL) (H : own_OC Z EL vm0 h n0) :
    BackS l R p e below (s.setVm vm0) args y len W (fun A a => a = as' ∧ A.U.heap = h ∧ A.cells + rm.cells ≤ R.cells ∧ A.slots + rm.slots ≤ R.slots)
      (fun A _ v B => ∃ L, Q v B.U.heap L ∧ B.locs = A.locs ++ L ∧ B.cells = A.cells + rm.cells ∧ B.slots = A.slots + rm.slots ∧ CHr Z EL vm0 h B.U.vm B.U.heap) :=
  BackS.of_freeW (bytes := bytes) (maxL := maxL) (ret := ret) (E := fun _ first o t L k n => k = rm.cells ∧ n = rm.slots ∧ (∃ v, o = .returned v ∧ Q v t.heap L) ∧ CHr Z EL first.vm first.heap t.vm t.heap) hM hf hl
    (fun m meth c A a Y hp => have hU : Z.Warmed39 A.U.vm := wtrans (s := s.setVm vm0) hZ Y.warmed
      ⟨by show (Jvm.Cond.and _ .tt).before a A.U = true; rw [Cond.before_and, mv hU wc]; rfl, mv hU wc, mv hU wz, hp.2.2.1, hp.2.2.2⟩)
    (fun m meth c A a g mk Y hp => ⟨hp.1, wtrans (s := s.setVm vm0) hZ Y.warmed, hp.2.1, (show own_OC Z EL A.U.vm h n0 from own_OC_at Y hZ hEL H)⟩) (fun _ _ _ _ _ _ _ _ _ => trivial)
    (fun _ _ _ _ ⟨v, L, h1, h2, h3, h4⟩ => ⟨L, _, _, h4, rfl, rfl, ⟨v, h1, h2⟩, h3⟩)
    (fun m meth c A a g mk v t L k n Y hp _ _ ⟨e1, e2, ⟨v', e3, e4⟩, e5⟩ => by
      cases e3; subst e1 e2
      refine ⟨L, e4, rfl, rfl, rfl, (CHv.at Y hZ hEL H.1).trans ?_⟩
      rw [← hp.2.1]; exact e5)
theorem own_extK {h h' : Heap} (K : Keep h h' []) : Ext h h' := ⟨K.1, fun x c q => K.2.1 x c q (by simp)⟩
theorem own_Fr_mono {k k' : Nat} {L : List Loc} (q : k ≤ k') (N : Fr k' L) : Fr k L := fun y hy => Nat.le_trans q (N y hy)
theorem own_cut3 {p : Program} {e : Env} {below : List Frame} {Q : Outcome → State → Prop} {t : State} {α β γ : Type} {P : α → β → γ → Prop} (f : α → β → γ → State) (hk : ∀ a b c, P a b c → Done p e below Q (f a b c)) (hr : (∀ a b c, P a b c → Done p e below Q (f a b c)) → Done p e below Q t) : Done p e below Q t := hr hk
theorem own_cut5 {p : Program} {e : Env} {below : List Frame} {Q : Outcome → State → Prop} {t : State} {α β γ δ ε : Type} {P : α → β → γ → δ → ε → Prop} (f : α → β → γ → δ → ε → State) (hk : ∀ a b c d x, P a b c d x → Done p e below Q (f a b c d x)) (hr : (∀ a b c d x, P a b c d x → Done p e below Q (f a b c d x)) → Done p e below Q t) : Done p e below Q t := hr hk

abbrev own_c0 : List Int32 := [112, 108, 97, 105, 110]
abbrev own_c1 : List Int32 := [112, 117, 114, 101]
abbrev own_c2 : List Int32 := [119, 109, 103]
abbrev own_c3 : List Int32 := [99, 102]
def own_opt (A : Nat → Addr) (cs : List Int32) : Value := if own_c0 = cs then .ref (A 0) else if own_c1 = cs then .ref (A 1) else if own_c2 = cs then .ref (A 2) else if own_c3 = cs then .ref (A 3) else .null
theorem own_if0 {P : Prop} [Decidable P] (h : (if P then (1 : Int32) else (0 : Int32)) = (0 : Int32)) : ¬ P := fun q => by rw [if_pos q] at h; exact absurd h (by decide)
theorem own_if1 {P : Prop} [Decidable P] (h : ¬ (if P then (1 : Int32) else (0 : Int32)) = (0 : Int32)) : P := Decidable.byContradiction fun q => h (if_neg q)
/-- the String x spells cs -/
def own_Str (Z : State) (h : Heap) (x : Addr) (cs : List Int32) : Prop := ∃ (t : Addr) (kb : ClassId) (N2 : Int32) (vs : List Value), Exa Z h x "java/lang/String" ∧ Fld Z h x "java/lang/String" "value" "[B" (.ref t) ∧ Fld Z h x "java/lang/String" "coder" "B" (.int 0) ∧ Arv Z h t kb .byte N2 vs (.int 0) ∧ StrChars.Road.CodA cs 0 N2 vs ∧ (∀ c ∈ cs, ¬ c < 0 ∧ ¬ (65535 : Int32) < c) ∧ cs.length ≤ 4000
theorem own_Str.ext {Z : State} {h h' : Heap} {x : Addr} {cs : List Int32} (A : own_Str Z h x cs) (E : Ext h h') : own_Str Z h' x cs := by
  obtain ⟨t, kb, N2, vs, a1, a2, a3, a4, r⟩ := A
  exact ⟨t, kb, N2, vs, a1.ext E, a2.ext E, a3.ext E, a4.ext E, r⟩
theorem own_Str.keep0 {Z : State} {h h' : Heap} {x : Addr} {cs : List Int32} (A : own_Str Z h x cs) (K : Keep h h' []) : own_Str Z h' x cs := by
  obtain ⟨t, kb, N2, vs, a1, a2, a3, a4, r⟩ := A
  exact ⟨t, kb, N2, vs, a1.keep K, a2.keep K (by simp), a3.keep K (by simp), a4.keep K (by simp), r⟩
theorem own_Str.exa {Z : State} {h : Heap} {x : Addr} {cs : List Int32} (A : own_Str Z h x cs) : Exa Z h x "java/lang/String" := by
  obtain ⟨t, kb, N2, vs, a1, r⟩ := A
  exact a1
theorem own_Str.len {Z : State} {h : Heap} {x : Addr} {cs : List Int32} (A : own_Str Z h x cs) : cs.length ≤ 4000 := by
  obtain ⟨t, kb, N2, vs, a1, a2, a3, a4, a5, a6, a7⟩ := A
  exact a7
theorem own_up {cs : List Int32} (h : ∀ c ∈ cs, ¬ c < 0 ∧ ¬ (255 : Int32) < c) : ∀ c ∈ cs, ¬ c < 0 ∧ ¬ (65535 : Int32) < c := fun c hc => ⟨(h c hc).1, fun q => (h c hc).2 (by
  rw [Int32.lt_iff_toInt_lt] at q ⊢
  rw [show (65535 : Int32).toInt = 65535 from by decide] at q
  rw [show (255 : Int32).toInt = 255 from by decide]
  omega)⟩
section Calls
variable {p : Program} {l : Launch} {e : Env} {R : Room} {s : State} {args : Array Value} {below : List Frame} {len W : Nat} {Z : State} {a0 : Array Value} {h : Heap}
theorem own_eqB (hZ : Z.Warmed39 s.vm) (hw : ∀ d ∈ StrChars.Road.wordsEq, d.before a0 Z = true) (wi : (Jvm.Cond.instantiable "java/lang/String" 4).before a0 Z = true) {x y : Addr} {cs ds : List Int32} (A : own_Str Z h x cs) (B : own_Str Z h y ds) {z : Int32} (S : Sta Z h "java/lang/String" "COMPACT_STRINGS" "Z" (.int z)) (hz : ¬ z = 0) (hfr : 2 ≤ R.frames) (hlo : W + 28 ≤ R.locals) :
    Back l R p e below s args (⟨"java/lang/String", "equals", "(Ljava/lang/Object;)Z"⟩ : MethodName) len W (fun P a => a = #[.ref x, .ref y] ∧ P.U.heap = h ∧ P.cells + 0 ≤ R.cells ∧ P.slots + 0 ≤ R.slots)
      (fun P _ v B => ∃ L, (v = some (.int (if cs = ds then (1 : Int32) else (0 : Int32))) ∧ L = [] ∧ B.U.heap = h) ∧ B.locs = P.locs ++ L ∧ B.cells = P.cells + 0 ∧ B.slots = P.slots + 0) := by
  obtain ⟨t, kb, N2, vs, E1, V1, C1, K1, hc, hb, l2⟩ := A
  obtain ⟨t', kb', N2', vs', E2, V2, C2, K2, hc', hb', l2'⟩ := B
  refine Back.mono (StrChars.Road.eqW hZ hw (kI := 4) wi E1 V1 C1 K1 hc hb l2 E2 V2 C2 K2 hc' hb' l2' S hz hfr hlo) (fun P a hp => hp) (fun P a v B hp hq => ?_)
  obtain ⟨L, ⟨hv, r⟩, r2⟩ := hq
  refine ⟨L, ⟨?_, r⟩, r2⟩
  rcases hv with ⟨h1, h2⟩ | ⟨h1, h2⟩
  · rw [if_pos h2]; exact h1
  · rw [if_neg h2]; exact h1
theorem own_lenB (hZ : Z.Warmed39 s.vm) (hw : ∀ d ∈ StrChars.Road.wordsLen, d.before a0 Z = true) (wi : (Jvm.Cond.instantiable "java/lang/String" 4).before a0 Z = true) {x : Addr} {cs : List Int32} (A : own_Str Z h x cs) {z : Int32} (S : Sta Z h "java/lang/String" "COMPACT_STRINGS" "Z" (.int z)) (hz : ¬ z = 0) (hfr : 2 ≤ R.frames) (hlo : W + 25 ≤ R.locals) :
    Back l R p e below s args (⟨"java/lang/String", "length", "()I"⟩ : MethodName) len W (fun P a => a = #[.ref x] ∧ P.U.heap = h ∧ P.cells + 0 ≤ R.cells ∧ P.slots + 0 ≤ R.slots)
      (fun P _ v B => ∃ L, (v = some (.int (Int32.ofNat cs.length)) ∧ L = [] ∧ B.U.heap = h) ∧ B.locs = P.locs ++ L ∧ B.cells = P.cells + 0 ∧ B.slots = P.slots + 0) := by
  obtain ⟨t, kb, N2, vs, E1, V1, C1, K1, hc, hb, l2⟩ := A
  exact StrChars.Road.lenW hZ hw (kI := 4) wi E1 V1 C1 K1 hc hb S hz l2 hfr hlo
theorem own_chB (hZ : Z.Warmed39 s.vm) (hw : ∀ d ∈ StrChars.Road.wordsChN, d.before a0 Z = true) (wi : (Jvm.Cond.instantiable "java/lang/String" 4).before a0 Z = true) {x : Addr} {cs : List Int32} (A : own_Str Z h x cs) {z : Int32} {fm : Value} (S : Sta Z h "java/lang/String" "COMPACT_STRINGS" "Z" (.int z)) (hz : ¬ z = 0) (F : Sta Z h "jdk/internal/util/Preconditions" "SIOOBE_FORMATTER" "Ljava/util/function/BiFunction;" fm) (rf : fm.isRef = true) {i : Nat} (hi : i < cs.length) {j : Int32} (hj : j = Int32.ofNat i) (hfr : 4 ≤ R.frames) (hlo : W + 53 ≤ R.locals) :
    Back l R p e below s args (⟨"java/lang/String", "charAt", "(I)C"⟩ : MethodName) len W (fun P a => a = #[.ref x, .int j] ∧ P.U.heap = h ∧ P.cells + 0 ≤ R.cells ∧ P.slots + 0 ≤ R.slots)
      (fun P _ v B => ∃ L, (v = some (.int (cs.getD i 0)) ∧ L = [] ∧ B.U.heap = h) ∧ B.locs = P.locs ++ L ∧ B.cells = P.cells + 0 ∧ B.slots = P.slots + 0) := by
  obtain ⟨t, kb, N2, vs, E1, V1, C1, K1, hc, hb, l2⟩ := A
  exact StrChars.Road.chN hZ hw (kI := 4) wi E1 V1 C1 K1 hc hb S hz F rf l2 hi hj hfr hlo
end Calls
theorem own_n255 : (255 : Int32).toInt = 255 := by decide
theorem own_n0 : (0 : Int32).toInt = 0 := by decide
theorem own_pc {x : Int32} (h : ¬ x < 0 ∧ ¬ (255 : Int32) < x) : ¬ (x.toUInt32.toUInt16.toUInt32.toInt32) < 0 ∧ ¬ (255 : Int32) < (x.toUInt32.toUInt16.toUInt32.toInt32) := by
  have h2 := c_i2c x
  simp only [Int32.lt_iff_toInt_lt, own_n255, own_n0] at h ⊢
  omega
theorem own_mc (x : Int32) : ¬ ((x &&& (255 : Int32)).toUInt32.toUInt16.toUInt32.toInt32) < 0 ∧ ¬ (255 : Int32) < ((x &&& (255 : Int32)).toUInt32.toUInt16.toUInt32.toInt32) := by
  apply own_pc
  have h := c_mask x (255 : Int32) 8 (by decide) (by decide)
  simp only [Int32.lt_iff_toInt_lt, own_n255, own_n0]
  omega
theorem own_ml (x : Int64) : ¬ ((x &&& (255 : Int64)).toInt32) < 0 ∧ ¬ (255 : Int32) < ((x &&& (255 : Int64)).toInt32) := by
  have h := c_maskL x (255 : Int64) 8 (by decide) (by decide)
  have h2 := c_l2i (x &&& (255 : Int64))
  have h3 := rng32 ((x &&& (255 : Int64)).toInt32)
  simp only [Int32.lt_iff_toInt_lt, own_n255, own_n0]
  omega
theorem own_at {cs : List Int32} (h : ∀ c ∈ cs, ¬ c < 0 ∧ ¬ (255 : Int32) < c) (i : Nat) (hi : i < cs.length) : ¬ (cs.getD i 0) < 0 ∧ ¬ (255 : Int32) < (cs.getD i 0) := by
  have e : cs.getD i 0 = cs[i] := by simp [List.getD_eq_getElem?_getD, hi]
  rw [e]; exact h _ (List.getElem_mem _)
theorem own_lt {ix n : Nat} {j : Int32} (e : j = Int32.ofNat ix) (h1 : ix < 6) (h2 : n ≤ 4000) (q : j < Int32.ofNat n) : ix < n := by
  rw [e, Int32.lt_iff_toInt_lt, Int32.toInt_ofNat_of_lt (by omega), Int32.toInt_ofNat_of_lt (by omega)] at q
  omega
theorem own_eqref {args : Array Value} {s : State} {t u : Term} {x : Addr} (hu : u.eval args s none [] s = some (.ref x)) (h : (Jvm.Cond.eq t u).value args s none s [] = some true) : t.eval args s none [] s = some (.ref x) := by
  simp only [Cond.value, hu] at h
  cases ht : t.eval args s none [] s with
  | none => simp [ht] at h
  | some y => cases y <;> simp [ht] at h ⊢; exact h
theorem own_len {args : Array Value} {s : State} {t : Term} {x : Addr} {cl : Cell} {ty : FieldType} {k : Int32} (ht : t.eval args s none [] s = some (.ref x)) (A : Arr s s.heap x cl ty) (h : (Term.length t).eval args s none [] s = some (.int k)) : cl.slots.size < 2 ^ 31 ∧ cl.slots.size.toInt32 = k := by
  have ha : s.arrayAt? x = some cl := Arr.fin (Vm.Alike.refl _) A
  by_cases q : cl.slots.size < 2 ^ 31
  · rw [len_f ht ha q] at h
    exact ⟨q, by cases h; rfl⟩
  · simp [Term.eval, ht, ha, q] at h
theorem own_el {args : Array Value} {s : State} {t : Term} {x : Addr} {cl : Cell} {ty : FieldType} {v : Value} (ht : t.eval args s none [] s = some (.ref x)) (A : Arr s s.heap x cl ty) (j : Int32) (h : (Term.elem t (.int j)).eval args s none [] s = some v) : cl.slots[j.toNatClampNeg]? = some v := (elem_in h ht (Term.int_eval j) A.1).2
theorem d3_0 : decode method_3_code 0 = .ok (.iload_n 0, 1) := by decide +kernel
theorem d3_1 : decode method_3_code 1 = .ok (.iconst 4, 1) := by decide +kernel
theorem d3_2 : decode method_3_code 2 = .ok (.if_icmp .ge 17, 3) := by decide +kernel
theorem d3_5 : decode method_3_code 5 = .ok (.iload_n 2, 1) := by decide +kernel
theorem d3_6 : decode method_3_code 6 = .ok (.aload_n 1, 1) := by decide +kernel
theorem d3_7 : decode method_3_code 7 = .ok (.invokevirtual 15, 3) := by decide +kernel
theorem d3_10 : decode method_3_code 10 = .ok (.if_icmp .ge 9, 3) := by decide +kernel
theorem d3_13 : decode method_3_code 13 = .ok (.aload_n 1, 1) := by decide +kernel
theorem d3_14 : decode method_3_code 14 = .ok (.iload_n 2, 1) := by decide +kernel
theorem d3_15 : decode method_3_code 15 = .ok (.invokevirtual 65, 3) := by decide +kernel
theorem d3_18 : decode method_3_code 18 = .ok (.ireturn, 1) := by decide +kernel
theorem d3_19 : decode method_3_code 19 = .ok (.lload_n 3, 1) := by decide +kernel
theorem d3_20 : decode method_3_code 20 = .ok (.bipush 8, 2) := by decide +kernel
theorem d3_22 : decode method_3_code 22 = .ok (.iload_n 2, 1) := by decide +kernel
theorem d3_23 : decode method_3_code 23 = .ok (.imul, 1) := by decide +kernel
theorem d3_24 : decode method_3_code 24 = .ok (.lushr, 1) := by decide +kernel
theorem d3_25 : decode method_3_code 25 = .ok (.ldc2_w 69, 3) := by decide +kernel
theorem d3_28 : decode method_3_code 28 = .ok (.land, 1) := by decide +kernel
theorem d3_29 : decode method_3_code 29 = .ok (.l2i, 1) := by decide +kernel
theorem d3_30 : decode method_3_code 30 = .ok (.i2c, 1) := by decide +kernel
theorem d3_31 : decode method_3_code 31 = .ok (.ireturn, 1) := by decide +kernel
theorem pn_3 : plainName "com/example/ensyn/ensyn/region/NetClassNamedPinLaw" = true := by first | (simp [plainName, overriddenIn]; done) | decide +kernel
theorem pd_0 : parseMethodDescriptor "()I" = some ⟨[], some .int⟩ := by decide +kernel
theorem pd_1 : parseMethodDescriptor "(I)C" = some ⟨[.int], some .char⟩ := by decide +kernel
theorem ef_3 (m : MethodId) (p0 : Int32) (u1 : Addr) (p2 : Int32) (q3 : Int64)  : entryFrame m #[(.int p0), (.ref u1), (.int p2), (.long q3)] 5 = mkF m 0 #[.val (.int p0), .val (.ref u1), .val (.int p2), .val (.long q3), .second] [] := by first | (simp [entryFrame, mkF, argsToLocals, Value.category]; done) | rfl
def Q3 (Z : State) (p0 : Int32) (u1 : Addr) (p2 : Int32) (q3 : Int64) (cs : List Int32) (ix : Nat) (cz : Int32) (fm : Value) (h0 : Heap) (n0 : Nat) (v : Option Value) (h : Heap) (L : List Loc) : Prop := ∃ c : Int32, v = some (.int c) ∧ (¬ c < 0 ∧ ¬ (255 : Int32) < c) ∧ Fr n0 L ∧ h = h0
set_option maxRecDepth 65536 in
set_option maxHeartbeats 40000000 in
theorem rm3 (l : Launch) (Z : State) (a0 : Array Value) (hw : ∀ d ∈ tables_1, d.before a0 Z = true) (ws : List Jvm.Cond) (p0 : Int32) (u1 : Addr) (p2 : Int32) (q3 : Int64) (cs : List Int32) (ix : Nat) (cz : Int32) (fm : Value) (h0 : Heap) (n0 : Nat) (Z0 : n0 ≤ h0.size) (HT : own_Str Z h0 u1 cs) (hcb : ∀ c ∈ cs, ¬ c < 0 ∧ ¬ (255 : Int32) < c) (SCS : Sta Z h0 "java/lang/String" "COMPACT_STRINGS" "Z" (.int cz)) (hcs : ¬ cz = (0 : Int32)) (SFM : Sta Z h0 "jdk/internal/util/Preconditions" "SIOOBE_FORMATTER" "Ljava/util/function/BiFunction;" fm) (hfm : fm.isRef = true) (hj : p2 = Int32.ofNat ix) (hj6 : ix < 6) :
    MetFree l (⟨"com/example/ensyn/ensyn/region/NetClassNamedPinLaw", "pick", "(ILjava/lang/String;IJ)C"⟩ : MethodName) (head1 (Jvm.Cond.code (⟨"com/example/ensyn/ensyn/region/NetClassNamedPinLaw", "pick", "(ILjava/lang/String;IJ)C"⟩ : MethodName) method_3_code 5 (some .char) :: ws) ({ frames := 4, cells := 0, slots := 0, locals := 53 } : Room)) (fun a U => a = #[(.int p0), (.ref u1), (.int p2), (.long q3)] ∧ Z.Warmed39 U.vm ∧ U.heap = h0) (fun _ _ _ _ _ => True) (fun _ U o U' => ∃ v L, o = .returned v ∧ Q3 Z p0 u1 p2 q3 cs ix cz fm h0 n0 v U'.heap L ∧ FrameEnd U o U' L ({ frames := 4, cells := 0, slots := 0, locals := 53 } : Room).cells ({ frames := 4, cells := 0, slots := 0, locals := 53 } : Room).slots) := by
  refine MetFree.of_bodySF (plainFor_of_name pn_3) hisR ?_
  intro p e s m args below meth c s₁ Bd hml0 hP hK
  obtain ⟨rfl, hZ, hh⟩ := hP
  have hx := Bd.exec
  have hby := Bd.bytes
  have hml : c.maxLocals = 5 := hml0
  have hown : s.vm.findClass "com/example/ensyn/ensyn/region/NetClassNamedPinLaw" = some m.cls := findClass_of_methodNamed Bd.named
  have hnm := (name_of_methodNamed Bd.named Bd.method).1
  have X0 : Stand p l e ({ frames := 4, cells := 0, slots := 0, locals := 53 } : Room) s m #[(.int p0), (.ref u1), (.int p2), (.long q3)] below meth c s₁ [] 0 0 := Stand.of_body Bd
  have e0 : s₁.heap = h0 := by rw [← hh, Bd.state]; rfl
  have N0 := Fr.nil n0
  have pre0 : ∀ t, Steps p.tables e below (s₁.setTop (mkF m 0 #[.val (.int p0), .val (.ref u1), .val (.int p2), .val (.long q3), .second] [])) t → Steps p.tables e below (s₁.setTop (entryFrame m #[(.int p0), (.ref u1), (.int p2), (.long q3)] 5)) t := fun t k => castTop (ef_3 m p0 u1 p2 q3) k
  show Done p e below _ _
  refine Done.of ?_ pre0
  have hwln : ∀ d ∈ StrChars.Road.wordsLen, d.before a0 Z = true := fun d hd => hw d ((by decide +kernel : ∀ d ∈ StrChars.Road.wordsLen, d ∈ tables_1) d hd)
  have hwch : ∀ d ∈ StrChars.Road.wordsChN, d.before a0 Z = true := fun d hd => hw d ((by decide +kernel : ∀ d ∈ StrChars.Road.wordsChN, d ∈ tables_1) d hd)
  have K1 : ∀ target, Steps p.tables e below (s₁.setTop (mkF m 2 #[.val (.int p0), .val (.ref u1), .val (.int p2), .val (.long q3), .second] [(.int (4 : Int32)), (.int p0)])) target → Steps p.tables e below (s₁.setTop (mkF m 0 #[.val (.int p0), .val (.ref u1), .val (.int p2), .val (.long q3), .second] [])) target := by
    intro target kt
    show Steps p.tables e below (s₁.setTop (mkF m 0 #[.val (.int p0), .val (.ref u1), .val (.int p2), .val (.long q3), .second] [])) _
    refine XS.iloadN X0.here hx rfl (hb hby d3_0) rfl ?_
    show Steps p.tables e below (s₁.setTop (mkF m 1 #[.val (.int p0), .val (.ref u1), .val (.int p2), .val (.long q3), .second] [(.int p0)])) _
    refine XS.iconst X0.here hx rfl (hb hby d3_1) ?_
    exact kt
  refine Done.of ?_ K1
  by_cases hc2_2 : p0 < (4 : Int32)
  · have K : ∀ target, Steps p.tables e below (s₁.setTop (mkF m 5 #[.val (.int p0), .val (.ref u1), .val (.int p2), .val (.long q3), .second] [])) target → Steps p.tables e below (s₁.setTop (mkF m 2 #[.val (.int p0), .val (.ref u1), .val (.int p2), .val (.long q3), .second] [(.int (4 : Int32)), (.int p0)])) target := by
      intro target kt
      refine XS.icmpNo X0.here hx rfl (hb hby d3_2) rfl (tlt hc2_2).2.1 ?_
      exact kt
    refine Done.of ?_ K
    obtain ⟨cq3, kq3, q3a, q3b, q3c⟩ := isOf hZ e0 (own_Str.exa HT)
    obtain ⟨_, _, ⟨T3, L3, k3, n3⟩, -, X3, ⟨Lc3, hQ3, l3, y3, z3⟩, st3⟩ := X0.virtualBack hx (y := (⟨"java/lang/String", "length", "()I"⟩ : MethodName)) (z := (⟨"java/lang/String", "length", "()I"⟩ : MethodName)) hown (mvT hZ (hw _ (List.mem_of_getElem? (i := 8) rfl))) (mvT hZ (hw _ (List.mem_of_getElem? (i := 9) rfl))) (notFace_of_selects (args := #[]) (mvT hZ (hw _ (List.mem_of_getElem? (i := 11) rfl)))) (mvT hZ (hw _ (List.mem_of_getElem? (i := 11) rfl))) (mvT hZ (hw _ (List.mem_of_getElem? (i := 10) rfl))) (by decide) (own_lenB (W := 1) hZ hwln (hw _ (List.mem_of_getElem? (i := 2) rfl)) HT SCS hcs (by decide) (by decide)) q3a q3c (g := (mkF m 7 #[.val (.int p0), .val (.ref u1), .val (.int p2), .val (.long q3), .second] [(.ref u1), (.int p2)])) rfl (by rw [hml]; rfl) (Steps.refl _) (argsL := []) (rest := [(.int p2)]) (lenOf pd_0 rfl) rfl (by show 2 * 0 + _ ≤ _; exact Nat.le_of_eq rfl) (hb hby d3_7) (fun _ _ => ⟨rfl, e0, (by decide : 0 + 0 ≤ _), (by decide : 0 + 0 ≤ _)⟩)
    dsimp only [Pt.U, Pt.locs, Pt.cells, Pt.slots] at X3 l3 y3 z3 st3 hQ3
    rw [l3, y3, z3] at X3
    obtain ⟨rfl, rfl, e3⟩ := hQ3
    have N3 := Fr.app N0 (Fr.nil n0)
    have K4 : ∀ target, Steps p.tables e below (T3.setTop (mkF m 10 #[.val (.int p0), .val (.ref u1), .val (.int p2), .val (.long q3), .second] [(.int (Int32.ofNat cs.length)), (.int p2)])) target → Steps p.tables e below (s₁.setTop (mkF m 5 #[.val (.int p0), .val (.ref u1), .val (.int p2), .val (.long q3), .second] [])) target := by
      intro target kt
      show Steps p.tables e below (s₁.setTop (mkF m 5 #[.val (.int p0), .val (.ref u1), .val (.int p2), .val (.long q3), .second] [])) _
      refine XS.iloadN X0.here hx rfl (hb hby d3_5) rfl ?_
      show Steps p.tables e below (s₁.setTop (mkF m 6 #[.val (.int p0), .val (.ref u1), .val (.int p2), .val (.long q3), .second] [(.int p2)])) _
      refine XS.aloadN X0.here hx rfl (hb hby d3_6) rfl rfl ?_
      show Steps p.tables e below (s₁.setTop (mkF m 7 #[.val (.int p0), .val (.ref u1), .val (.int p2), .val (.long q3), .second] [(.ref u1), (.int p2)])) _
      refine st3.trans ?_
      exact kt
    refine Done.of ?_ K4
    by_cases hc10_5 : p2 < (Int32.ofNat cs.length)
    · have K : ∀ target, Steps p.tables e below (T3.setTop (mkF m 13 #[.val (.int p0), .val (.ref u1), .val (.int p2), .val (.long q3), .second] [])) target → Steps p.tables e below (T3.setTop (mkF m 10 #[.val (.int p0), .val (.ref u1), .val (.int p2), .val (.long q3), .second] [(.int (Int32.ofNat cs.length)), (.int p2)])) target := by
        intro target kt
        refine XS.icmpNo X3.here hx rfl (hb hby d3_10) rfl (tlt hc10_5).2.1 ?_
        exact kt
      refine Done.of ?_ K
      have hix := own_lt hj hj6 (own_Str.len HT) hc10_5
      obtain ⟨cq6, kq6, q6a, q6b, q6c⟩ := isOf hZ e3 (own_Str.exa HT)
      obtain ⟨_, _, ⟨T6, L6, k6, n6⟩, -, X6, ⟨Lc6, hQ6, l6, y6, z6⟩, st6⟩ := X3.virtualBack hx (y := (⟨"java/lang/String", "charAt", "(I)C"⟩ : MethodName)) (z := (⟨"java/lang/String", "charAt", "(I)C"⟩ : MethodName)) hown (mvT hZ (hw _ (List.mem_of_getElem? (i := 26) rfl))) (mvT hZ (hw _ (List.mem_of_getElem? (i := 27) rfl))) (notFace_of_selects (args := #[]) (mvT hZ (hw _ (List.mem_of_getElem? (i := 29) rfl)))) (mvT hZ (hw _ (List.mem_of_getElem? (i := 29) rfl))) (mvT hZ (hw _ (List.mem_of_getElem? (i := 28) rfl))) (by decide) (own_chB (W := 0) hZ hwch (hw _ (List.mem_of_getElem? (i := 2) rfl)) HT SCS hcs SFM hfm hix hj (by decide) (by decide)) q6a q6c (g := (mkF m 15 #[.val (.int p0), .val (.ref u1), .val (.int p2), .val (.long q3), .second] [(.int p2), (.ref u1)])) rfl (by rw [hml]; rfl) (Steps.refl _) (argsL := [(.int p2)]) (rest := []) (lenOf pd_1 rfl) rfl (by show 2 * 0 + _ ≤ _; exact Nat.le_of_eq rfl) (hb hby d3_15) (fun _ _ => ⟨rfl, e3, (by decide : 0 + 0 ≤ _), (by decide : 0 + 0 ≤ _)⟩)
      dsimp only [Pt.U, Pt.locs, Pt.cells, Pt.slots] at X6 l6 y6 z6 st6 hQ6
      rw [l6, y6, z6] at X6
      obtain ⟨rfl, rfl, e6⟩ := hQ6
      have N6 := Fr.app N3 (Fr.nil n0)
      obtain ⟨fs, hr, hrun, hended, hW, hsame⟩ := X6.leave (v := some (.int (nar .char (cs.getD ix 0)))) (fun h => by rw [Bd.returns] at h; cases h)
      refine ⟨_, _, ?_, hrun, hended, _, _, rfl, ?_, ⟨_, rfl⟩, hW, hsame.mono (by decide) (by decide)⟩
      · show Steps p.tables e below (T3.setTop (mkF m 13 #[.val (.int p0), .val (.ref u1), .val (.int p2), .val (.long q3), .second] [])) _
        refine XS.aloadN X3.here hx rfl (hb hby d3_13) rfl rfl ?_
        show Steps p.tables e below (T3.setTop (mkF m 14 #[.val (.int p0), .val (.ref u1), .val (.int p2), .val (.long q3), .second] [(.ref u1)])) _
        refine XS.iloadN X3.here hx rfl (hb hby d3_14) rfl ?_
        show Steps p.tables e below (T3.setTop (mkF m 15 #[.val (.int p0), .val (.ref u1), .val (.int p2), .val (.long q3), .second] [(.int p2), (.ref u1)])) _
        refine st6.trans ?_
        show Steps p.tables e below (T6.setTop (mkF m 18 #[.val (.int p0), .val (.ref u1), .val (.int p2), .val (.long q3), .second] [(.int (cs.getD ix 0))])) _
        exact retN X6 hx (t := .char) Bd.returns (by simp) (hb hby d3_18) hr
      · show Q3 Z p0 u1 p2 q3 cs ix cz fm h0 n0 _ T6.heap _
        rw [e6]
        exact ⟨_, rfl, own_pc (own_at hcb ix hix), N6, rfl⟩
    · have K : ∀ target, Steps p.tables e below (T3.setTop (mkF m 19 #[.val (.int p0), .val (.ref u1), .val (.int p2), .val (.long q3), .second] [])) target → Steps p.tables e below (T3.setTop (mkF m 10 #[.val (.int p0), .val (.ref u1), .val (.int p2), .val (.long q3), .second] [(.int (Int32.ofNat cs.length)), (.int p2)])) target := by
        intro target kt
        refine XS.icmpYes X3.here hx rfl (pc0 := 10) (pc' := 19) rfl (hb hby d3_10) rfl (flt hc10_5).2.1 (by decide) (by decide) ?_
        exact kt
      refine Done.of ?_ K
      obtain ⟨fs, hr, hrun, hended, hW, hsame⟩ := X3.leave (v := some (.int (nar .char (((((q3.toUInt64 >>> (((8 : Int32) * p2) &&& 0x3f).toInt64.toUInt64).toInt64) &&& (255 : Int64)).toInt32).toUInt32.toUInt16.toUInt32.toInt32)))) (fun h => by rw [Bd.returns] at h; cases h)
      refine ⟨_, _, ?_, hrun, hended, _, _, rfl, ?_, ⟨_, rfl⟩, hW, hsame.mono (by decide) (by decide)⟩
      · show Steps p.tables e below (T3.setTop (mkF m 19 #[.val (.int p0), .val (.ref u1), .val (.int p2), .val (.long q3), .second] [])) _
        refine XS.lloadN X3.here hx rfl (hb hby d3_19) rfl ?_
        show Steps p.tables e below (T3.setTop (mkF m 20 #[.val (.int p0), .val (.ref u1), .val (.int p2), .val (.long q3), .second] [(.long q3)])) _
        refine XS.bipush X3.here hx rfl (hb hby d3_20) ?_
        show Steps p.tables e below (T3.setTop (mkF m 22 #[.val (.int p0), .val (.ref u1), .val (.int p2), .val (.long q3), .second] [(.int (8 : Int32)), (.long q3)])) _
        refine XS.iloadN X3.here hx rfl (hb hby d3_22) rfl ?_
        show Steps p.tables e below (T3.setTop (mkF m 23 #[.val (.int p0), .val (.ref u1), .val (.int p2), .val (.long q3), .second] [(.int p2), (.int (8 : Int32)), (.long q3)])) _
        refine XS.imul X3.here hx rfl (hb hby d3_23) rfl ?_
        show Steps p.tables e below (T3.setTop (mkF m 24 #[.val (.int p0), .val (.ref u1), .val (.int p2), .val (.long q3), .second] [(.int ((8 : Int32) * p2)), (.long q3)])) _
        refine XS.lushr X3.here hx rfl (hb hby d3_24) rfl ?_
        show Steps p.tables e below (T3.setTop (mkF m 25 #[.val (.int p0), .val (.ref u1), .val (.int p2), .val (.long q3), .second] [(.long ((q3.toUInt64 >>> (((8 : Int32) * p2) &&& 0x3f).toInt64.toUInt64).toInt64))])) _
        refine X3.ldc2Long hx hown (mvT hZ (hw _ (List.mem_of_getElem? (i := 48) rfl))) (g := (mkF m 25 #[.val (.int p0), .val (.ref u1), .val (.int p2), .val (.long q3), .second] [(.long ((q3.toUInt64 >>> (((8 : Int32) * p2) &&& 0x3f).toInt64.toUInt64).toInt64))])) rfl (hb hby d3_25) _ ?_
        show Steps p.tables e below (T3.setTop (mkF m 28 #[.val (.int p0), .val (.ref u1), .val (.int p2), .val (.long q3), .second] [(.long (255 : Int64)), (.long ((q3.toUInt64 >>> (((8 : Int32) * p2) &&& 0x3f).toInt64.toUInt64).toInt64))])) _
        refine XS.land X3.here hx rfl (hb hby d3_28) rfl ?_
        show Steps p.tables e below (T3.setTop (mkF m 29 #[.val (.int p0), .val (.ref u1), .val (.int p2), .val (.long q3), .second] [(.long (((q3.toUInt64 >>> (((8 : Int32) * p2) &&& 0x3f).toInt64.toUInt64).toInt64) &&& (255 : Int64)))])) _
        refine XS.l2i X3.here hx rfl (hb hby d3_29) rfl ?_
        show Steps p.tables e below (T3.setTop (mkF m 30 #[.val (.int p0), .val (.ref u1), .val (.int p2), .val (.long q3), .second] [(.int ((((q3.toUInt64 >>> (((8 : Int32) * p2) &&& 0x3f).toInt64.toUInt64).toInt64) &&& (255 : Int64)).toInt32))])) _
        refine XS.i2c X3.here hx rfl (hb hby d3_30) rfl ?_
        show Steps p.tables e below (T3.setTop (mkF m 31 #[.val (.int p0), .val (.ref u1), .val (.int p2), .val (.long q3), .second] [(.int (((((q3.toUInt64 >>> (((8 : Int32) * p2) &&& 0x3f).toInt64.toUInt64).toInt64) &&& (255 : Int64)).toInt32).toUInt32.toUInt16.toUInt32.toInt32))])) _
        exact retN X3 hx (t := .char) Bd.returns (by simp) (hb hby d3_31) hr
      · show Q3 Z p0 u1 p2 q3 cs ix cz fm h0 n0 _ T3.heap _
        rw [e3]
        exact ⟨_, rfl, own_pc (own_pc (own_ml _)), N3, rfl⟩
  · have K : ∀ target, Steps p.tables e below (s₁.setTop (mkF m 19 #[.val (.int p0), .val (.ref u1), .val (.int p2), .val (.long q3), .second] [])) target → Steps p.tables e below (s₁.setTop (mkF m 2 #[.val (.int p0), .val (.ref u1), .val (.int p2), .val (.long q3), .second] [(.int (4 : Int32)), (.int p0)])) target := by
      intro target kt
      refine XS.icmpYes X0.here hx rfl (pc0 := 2) (pc' := 19) rfl (hb hby d3_2) rfl (flt hc2_2).2.1 (by decide) (by decide) ?_
      exact kt
    refine Done.of ?_ K
    obtain ⟨fs, hr, hrun, hended, hW, hsame⟩ := X0.leave (v := some (.int (nar .char (((((q3.toUInt64 >>> (((8 : Int32) * p2) &&& 0x3f).toInt64.toUInt64).toInt64) &&& (255 : Int64)).toInt32).toUInt32.toUInt16.toUInt32.toInt32)))) (fun h => by rw [Bd.returns] at h; cases h)
    refine ⟨_, _, ?_, hrun, hended, _, _, rfl, ?_, ⟨_, rfl⟩, hW, hsame.mono (by decide) (by decide)⟩
    · show Steps p.tables e below (s₁.setTop (mkF m 19 #[.val (.int p0), .val (.ref u1), .val (.int p2), .val (.long q3), .second] [])) _
      refine XS.lloadN X0.here hx rfl (hb hby d3_19) rfl ?_
      show Steps p.tables e below (s₁.setTop (mkF m 20 #[.val (.int p0), .val (.ref u1), .val (.int p2), .val (.long q3), .second] [(.long q3)])) _
      refine XS.bipush X0.here hx rfl (hb hby d3_20) ?_
      show Steps p.tables e below (s₁.setTop (mkF m 22 #[.val (.int p0), .val (.ref u1), .val (.int p2), .val (.long q3), .second] [(.int (8 : Int32)), (.long q3)])) _
      refine XS.iloadN X0.here hx rfl (hb hby d3_22) rfl ?_
      show Steps p.tables e below (s₁.setTop (mkF m 23 #[.val (.int p0), .val (.ref u1), .val (.int p2), .val (.long q3), .second] [(.int p2), (.int (8 : Int32)), (.long q3)])) _
      refine XS.imul X0.here hx rfl (hb hby d3_23) rfl ?_
      show Steps p.tables e below (s₁.setTop (mkF m 24 #[.val (.int p0), .val (.ref u1), .val (.int p2), .val (.long q3), .second] [(.int ((8 : Int32) * p2)), (.long q3)])) _
      refine XS.lushr X0.here hx rfl (hb hby d3_24) rfl ?_
      show Steps p.tables e below (s₁.setTop (mkF m 25 #[.val (.int p0), .val (.ref u1), .val (.int p2), .val (.long q3), .second] [(.long ((q3.toUInt64 >>> (((8 : Int32) * p2) &&& 0x3f).toInt64.toUInt64).toInt64))])) _
      refine X0.ldc2Long hx hown (mvT hZ (hw _ (List.mem_of_getElem? (i := 48) rfl))) (g := (mkF m 25 #[.val (.int p0), .val (.ref u1), .val (.int p2), .val (.long q3), .second] [(.long ((q3.toUInt64 >>> (((8 : Int32) * p2) &&& 0x3f).toInt64.toUInt64).toInt64))])) rfl (hb hby d3_25) _ ?_
      show Steps p.tables e below (s₁.setTop (mkF m 28 #[.val (.int p0), .val (.ref u1), .val (.int p2), .val (.long q3), .second] [(.long (255 : Int64)), (.long ((q3.toUInt64 >>> (((8 : Int32) * p2) &&& 0x3f).toInt64.toUInt64).toInt64))])) _
      refine XS.land X0.here hx rfl (hb hby d3_28) rfl ?_
      show Steps p.tables e below (s₁.setTop (mkF m 29 #[.val (.int p0), .val (.ref u1), .val (.int p2), .val (.long q3), .second] [(.long (((q3.toUInt64 >>> (((8 : Int32) * p2) &&& 0x3f).toInt64.toUInt64).toInt64) &&& (255 : Int64)))])) _
      refine XS.l2i X0.here hx rfl (hb hby d3_29) rfl ?_
      show Steps p.tables e below (s₁.setTop (mkF m 30 #[.val (.int p0), .val (.ref u1), .val (.int p2), .val (.long q3), .second] [(.int ((((q3.toUInt64 >>> (((8 : Int32) * p2) &&& 0x3f).toInt64.toUInt64).toInt64) &&& (255 : Int64)).toInt32))])) _
      refine XS.i2c X0.here hx rfl (hb hby d3_30) rfl ?_
      show Steps p.tables e below (s₁.setTop (mkF m 31 #[.val (.int p0), .val (.ref u1), .val (.int p2), .val (.long q3), .second] [(.int (((((q3.toUInt64 >>> (((8 : Int32) * p2) &&& 0x3f).toInt64.toUInt64).toInt64) &&& (255 : Int64)).toInt32).toUInt32.toUInt16.toUInt32.toInt32))])) _
      exact retN X0 hx (t := .char) Bd.returns (by simp) (hb hby d3_31) hr
    · show Q3 Z p0 u1 p2 q3 cs ix cz fm h0 n0 _ s₁.heap _
      rw [e0]
      exact ⟨_, rfl, own_pc (own_pc (own_ml _)), N0, rfl⟩
theorem d11_0 : decode jdk_42_method_149_code 0 = .ok (.aload_n 0, 1) := by decide +kernel
theorem d11_1 : decode jdk_42_method_149_code 1 = .ok (.invokespecial 1, 3) := by decide +kernel
theorem d11_4 : decode jdk_42_method_149_code 4 = .ok (.iload_n 3, 1) := by decide +kernel
theorem d11_5 : decode jdk_42_method_149_code 5 = .ok (.ifCond .ne 22, 3) := by decide +kernel
theorem d11_8 : decode jdk_42_method_149_code 8 = .ok (.aload_n 0, 1) := by decide +kernel
theorem d11_9 : decode jdk_42_method_149_code 9 = .ok (.ldc 7, 2) := by decide +kernel
theorem d11_11 : decode jdk_42_method_149_code 11 = .ok (.getfield 9, 3) := by decide +kernel
theorem d11_14 : decode jdk_42_method_149_code 14 = .ok (.putfield 9, 3) := by decide +kernel
theorem d11_17 : decode jdk_42_method_149_code 17 = .ok (.aload_n 0, 1) := by decide +kernel
theorem d11_18 : decode jdk_42_method_149_code 18 = .ok (.ldc 7, 2) := by decide +kernel
theorem d11_20 : decode jdk_42_method_149_code 20 = .ok (.getfield 15, 3) := by decide +kernel
theorem d11_23 : decode jdk_42_method_149_code 23 = .ok (.putfield 15, 3) := by decide +kernel
theorem d11_26 : decode jdk_42_method_149_code 26 = .ok (.return_, 1) := by decide +kernel
theorem pn_11 : plainName "java/lang/String" = true := by first | (simp [plainName, overriddenIn]; done) | decide +kernel
theorem ef_11e (m : MethodId) (u0 : Addr) (u1 : Addr)  : entryFrame m #[(.ref u0), (.ref u1), (.int (0 : Int32)), (.int (0 : Int32)), .null] 6 = mkF m 0 #[.val (.ref u0), .val (.ref u1), .val (.int (0 : Int32)), .val (.int (0 : Int32)), .val .null, .unset] [] := by first | (simp [entryFrame, mkF, argsToLocals, Value.category]; done) | rfl
def Q11e (Z : State) (u0 : Addr) (u1 : Addr) (h0 : Heap) (n0 : Nat) (v : Option Value) (h : Heap) (L : List Loc) : Prop := v = none ∧ Fr n0 L ∧ Keep h0 h [u0] ∧ own_Str Z h u0 []
set_option maxRecDepth 65536 in
set_option maxHeartbeats 40000000 in
theorem rm11e (l : Launch) (Z : State) (a0 : Array Value) (hw : ∀ d ∈ tables_1, d.before a0 Z = true) (ws : List Jvm.Cond) (u0 : Addr) (u1 : Addr) (h0 : Heap) (n0 : Nat) (Z0 : n0 ≤ h0.size) (E0 : Exa Z h0 u0 "java/lang/String") (g0 : n0 ≤ u0) (F_value : Fld Z h0 u0 "java/lang/String" "value" "[B" .null) (F_coder : Fld Z h0 u0 "java/lang/String" "coder" "B" (.int (0 : Int32))) :
    MetFree l (⟨"java/lang/String", "<init>", "([CIILjava/lang/Void;)V"⟩ : MethodName) (head1 (Jvm.Cond.code (⟨"java/lang/String", "<init>", "([CIILjava/lang/Void;)V"⟩ : MethodName) jdk_42_method_149_code 6 none :: ws) ({ frames := 1, cells := 2, slots := 4, locals := 12 } : Room)) (fun a U => a = #[(.ref u0), (.ref u1), (.int (0 : Int32)), (.int (0 : Int32)), .null] ∧ Z.Warmed39 U.vm ∧ U.heap = h0 ∧ own_OC Z [("com/example/ensyn/ensyn/region/NetClassNamedPinLaw", 7), ("com/example/ensyn/ensyn/region/NetClassNamedPinLaw", 9), ("com/example/ensyn/ensyn/region/NetClassNamedPinLaw", 11), ("com/example/ensyn/ensyn/region/NetClassNamedPinLaw", 13), ("java/lang/String", 7)] U.vm h0 n0) (fun _ _ _ _ _ => True) (fun _ U o U' => ∃ v L, o = .returned v ∧ Q11e Z u0 u1 h0 n0 v U'.heap L ∧ CHr Z [("com/example/ensyn/ensyn/region/NetClassNamedPinLaw", 7), ("com/example/ensyn/ensyn/region/NetClassNamedPinLaw", 9), ("com/example/ensyn/ensyn/region/NetClassNamedPinLaw", 11), ("com/example/ensyn/ensyn/region/NetClassNamedPinLaw", 13), ("java/lang/String", 7)] U.vm U.heap U'.vm U'.heap ∧ ReturnedEndW U o U' L ({ frames := 1, cells := 2, slots := 4, locals := 12 } : Room).cells ({ frames := 1, cells := 2, slots := 4, locals := 12 } : Room).slots) := by
  refine MetFree.of_bodySF (plainFor_of_name pn_11) hisR ?_
  intro p e s m args below meth c s₁ Bd hml0 hP hK
  obtain ⟨rfl, hZ, hh, hOC⟩ := hP
  have hx := Bd.exec
  have hby := Bd.bytes
  have hml : c.maxLocals = 6 := hml0
  have hown : s.vm.findClass "java/lang/String" = some m.cls := findClass_of_methodNamed Bd.named
  have hnm := (name_of_methodNamed Bd.named Bd.method).1
  have X0 : Stand p l e ({ frames := 1, cells := 2, slots := 4, locals := 12 } : Room) (s.setVm s.vm) m #[(.ref u0), (.ref u1), (.int (0 : Int32)), (.int (0 : Int32)), .null] below meth c s₁ [] 0 0 := Stand.of_body Bd
  have e0 : s₁.heap = h0 := by rw [← hh, Bd.state]; rfl
  have N0 := Fr.nil n0
  have pre0 : ∀ t, Steps p.tables e below (s₁.setTop (mkF m 0 #[.val (.ref u0), .val (.ref u1), .val (.int (0 : Int32)), .val (.int (0 : Int32)), .val .null, .unset] [])) t → Steps p.tables e below (s₁.setTop (entryFrame m #[(.ref u0), (.ref u1), (.int (0 : Int32)), (.int (0 : Int32)), .null] 6)) t := fun t k => castTop (ef_11e m u0 u1) k
  show Done p e below _ _
  refine Done.of ?_ pre0
  have hS0 : s.Since s.vm 0 := (State.WarmedH.refl s).since 0
  have hEW : EW Z a0 [("com/example/ensyn/ensyn/region/NetClassNamedPinLaw", 7), ("com/example/ensyn/ensyn/region/NetClassNamedPinLaw", 9), ("com/example/ensyn/ensyn/region/NetClassNamedPinLaw", 11), ("com/example/ensyn/ensyn/region/NetClassNamedPinLaw", 13), ("java/lang/String", 7)] := (EW.cons (hw _ (List.mem_of_getElem? (i := 0) rfl)) (by decide +kernel) (EW.cons (hw _ (List.mem_of_getElem? (i := 142) rfl)) (by decide +kernel) (EW.cons (hw _ (List.mem_of_getElem? (i := 141) rfl)) (by decide +kernel) (EW.cons (hw _ (List.mem_of_getElem? (i := 143) rfl)) (by decide +kernel) (EW.cons (hw _ (List.mem_of_getElem? (i := 145) rfl)) (by decide +kernel) EW.nil)))))
  have wS : ∀ a ∈ Bundle.stringAtoms, a.before a0 Z = true := fun d hd => hw d ((by decide +kernel : ∀ d ∈ Bundle.stringAtoms, d ∈ tables_1) d hd)
  obtain ⟨T1, X1, e1, st1⟩ := initO X0 hx hZ hown (hw _ (List.mem_of_getElem? (i := 61) rfl)) (hw _ (List.mem_of_getElem? (i := 62) rfl)) (hw _ (List.mem_of_getElem? (i := 63) rfl)) e0 (g := (mkF m 1 #[.val (.ref u0), .val (.ref u1), .val (.int (0 : Int32)), .val (.int (0 : Int32)), .val .null, .unset] [(.ref u0)])) rfl (by rw [hml]; rfl) rfl (hb hby d11_1) (by decide) (W := 0) (by show 2 * 0 + _ ≤ _; exact Nat.le_of_eq rfl) (by decide)
  obtain ⟨a2, T2, h2, k12, bb2, kb2, X2, e2, E2, hS2, hk2, hZ2, hown2, LE2, LC2, LV2, LA2, -, -, CR2, Lit2, LN2, st2⟩ := ldcCH X1 hx hZ hown (hw _ (List.mem_of_getElem? (i := 145) rfl)) wS e1 hS0 (Nat.zero_le _) hEW (List.mem_of_getElem? (i := 4) rfl) hOC.1 (vs := []) (z := (0 : Int32)) ⟨by decide +kernel, by first | rfl | decide +kernel⟩ (by decide) (by decide) (g := (mkF m 9 #[.val (.ref u0), .val (.ref u1), .val (.int (0 : Int32)), .val (.int (0 : Int32)), .val .null, .unset] [(.ref u0)])) rfl (hb hby d11_9) (n := 0) (by decide +kernel) (by decide) (by decide) (by decide)
  have LU2 : u0 ≠ a2 ∧ u0 ≠ bb2 := LN2 _ (CR2.safe E0.lt (own_OC_safe hOC g0))
  have Z2 : n0 ≤ h2.size := Nat.le_trans Z0 E2.1
  have Kp2 := (Keep.refl h0 [u0]).ext E2
  obtain ⟨T3, X3, e3, st3⟩ := getF X2 hx hZ2 hown2 (host := "") (Or.inl (hw _ (List.mem_of_getElem? (i := 13) rfl))) Via.refl e2 LV2 (g := (mkF m 11 #[.val (.ref u0), .val (.ref u1), .val (.int (0 : Int32)), .val (.int (0 : Int32)), .val .null, .unset] [(.ref a2), (.ref u0)])) rfl rfl (hb hby d11_11)
  obtain ⟨T4, h4, X4, e4, W4, st4⟩ := putF X3 hx hZ2 hown2 (host := "") (Or.inl (hw _ (List.mem_of_getElem? (i := 13) rfl))) Via.refl e3 (F_value.ext E2) (E0.ext E2) (Or.inr ⟨(hw _ (List.mem_of_getElem? (i := 4) rfl)), rfl, hnm⟩) (hw _ (List.mem_of_getElem? (i := 2) rfl)) (ty := (.array .byte)) (by decide) rfl rfl (g := (mkF m 14 #[.val (.ref u0), .val (.ref u1), .val (.int (0 : Int32)), .val (.int (0 : Int32)), .val .null, .unset] [(.ref bb2), (.ref u0)])) rfl rfl (hb hby d11_14)
  have Fw4 := Fld.same W4 (F_value.ext E2)
  have N4 := Fr.snoc X4 N0 g0
  have Z4 : n0 ≤ h4.size := Nat.le_trans Z2 (Nat.le_of_eq W4.size.symm)
  have Kp4 := Kp2.wr W4 (Or.inl (List.mem_of_getElem? (i := 0) rfl))
  obtain ⟨T5, X5, e5, st5⟩ := getF X4 hx hZ2 hown2 (host := "") (Or.inl (hw _ (List.mem_of_getElem? (i := 20) rfl))) Via.refl e4 (LC2.other W4 (Or.inl (Ne.symm LU2.1))) (g := (mkF m 20 #[.val (.ref u0), .val (.ref u1), .val (.int (0 : Int32)), .val (.int (0 : Int32)), .val .null, .unset] [(.ref a2), (.ref u0)])) rfl rfl (hb hby d11_20)
  have cy6 := (F_coder.ext E2)
  have cy7 := (cy6.other W4 (Or.inr (slot_ne (Or.inr (hw _ (List.mem_of_getElem? (i := 5) rfl))) (Or.inr (hw _ (List.mem_of_getElem? (i := 4) rfl))) (by decide) (t := .byte) (t' := (.array .byte)) (by decide) (by decide))))
  have cy8 := (E0.ext E2)
  have cy9 := (cy8.wr W4)
  obtain ⟨T10, h10, X10, e10, W10, st10⟩ := putFN X5 hx hZ2 hown2 (hw _ (List.mem_of_getElem? (i := 20) rfl)) Via.refl e5 cy7 cy9 (Or.inr ⟨(hw _ (List.mem_of_getElem? (i := 5) rfl)), rfl, hnm⟩) (hw _ (List.mem_of_getElem? (i := 2) rfl)) (ty := .byte) (v' := .int ((0 : Int32).toInt8.toInt32)) (by decide) rfl (fits_nar_byte _) (g := (mkF m 23 #[.val (.ref u0), .val (.ref u1), .val (.int (0 : Int32)), .val (.int (0 : Int32)), .val .null, .unset] [(.int (0 : Int32)), (.ref u0)])) rfl rfl (hb hby d11_23)
  have Fw10 := Fld.same W10 cy7
  have N10 := Fr.snoc X10 N4 g0
  have Z10 : n0 ≤ h10.size := Nat.le_trans Z4 (Nat.le_of_eq W10.size.symm)
  have Kp10 := Kp4.wr W10 (Or.inl (List.mem_of_getElem? (i := 0) rfl))
  obtain ⟨fs, hr, hrun, hended, hEnd⟩ := X10.leaveW hS2 (by rw [e10]; exact (Nat.le_trans (Nat.le_trans hk2 (Nat.le_of_eq W4.size.symm)) (Nat.le_of_eq W10.size.symm))) (v := none) (fun _ => rfl)
  have R_0 := CHr.refl hOC.1
  have R_1 := CHr.trans R_0 CR2
  have R_2 := CHr.trans R_1 (CHr.wr W4 (CHr.safe R_1 E0.lt (own_OC_safe hOC g0)) R_1.1)
  have R_3 := CHr.trans R_2 (CHr.wr W10 (CHr.safe R_2 E0.lt (own_OC_safe hOC g0)) R_2.1)
  have R_z := CHr.trans R_3 (CHv.at X10 hZ2 hEW R_3.1)
  have RRz : CHr Z [("com/example/ensyn/ensyn/region/NetClassNamedPinLaw", 7), ("com/example/ensyn/ensyn/region/NetClassNamedPinLaw", 9), ("com/example/ensyn/ensyn/region/NetClassNamedPinLaw", 11), ("com/example/ensyn/ensyn/region/NetClassNamedPinLaw", 13), ("java/lang/String", 7)] s.vm s.heap T10.vm T10.heap := by
    rw [hh, e10]
    exact R_z
  refine ⟨_, _, ?_, hrun, hended, _, _, rfl, ?_, RRz, hEnd.1, hEnd.2.1, hEnd.2.2.1, hEnd.2.2.2.mono (by decide) (by decide)⟩
  · show Steps p.tables e below (s₁.setTop (mkF m 0 #[.val (.ref u0), .val (.ref u1), .val (.int (0 : Int32)), .val (.int (0 : Int32)), .val .null, .unset] [])) _
    refine XS.aloadN X0.here hx rfl (hb hby d11_0) rfl rfl ?_
    show Steps p.tables e below (s₁.setTop (mkF m 1 #[.val (.ref u0), .val (.ref u1), .val (.int (0 : Int32)), .val (.int (0 : Int32)), .val .null, .unset] [(.ref u0)])) _
    refine st1 _ ?_
    show Steps p.tables e below (T1.setTop (mkF m 4 #[.val (.ref u0), .val (.ref u1), .val (.int (0 : Int32)), .val (.int (0 : Int32)), .val .null, .unset] [])) _
    refine XS.iloadN X1.here hx rfl (hb hby d11_4) rfl ?_
    show Steps p.tables e below (T1.setTop (mkF m 5 #[.val (.ref u0), .val (.ref u1), .val (.int (0 : Int32)), .val (.int (0 : Int32)), .val .null, .unset] [(.int (0 : Int32))])) _
    refine XS.ifNo X1.here hx rfl (hb hby d11_5) rfl ((if0 _ _).trans (teq (rfl : (0 : Int32) = (0 : Int32))).2) ?_
    show Steps p.tables e below (T1.setTop (mkF m 8 #[.val (.ref u0), .val (.ref u1), .val (.int (0 : Int32)), .val (.int (0 : Int32)), .val .null, .unset] [])) _
    refine XS.aloadN X1.here hx rfl (hb hby d11_8) rfl rfl ?_
    show Steps p.tables e below (T1.setTop (mkF m 9 #[.val (.ref u0), .val (.ref u1), .val (.int (0 : Int32)), .val (.int (0 : Int32)), .val .null, .unset] [(.ref u0)])) _
    refine st2 _ ?_
    show Steps p.tables e below (T2.setTop (mkF m 11 #[.val (.ref u0), .val (.ref u1), .val (.int (0 : Int32)), .val (.int (0 : Int32)), .val .null, .unset] [(.ref a2), (.ref u0)])) _
    refine st3 _ ?_
    show Steps p.tables e below (T3.setTop (mkF m 14 #[.val (.ref u0), .val (.ref u1), .val (.int (0 : Int32)), .val (.int (0 : Int32)), .val .null, .unset] [(.ref bb2), (.ref u0)])) _
    refine st4 _ ?_
    show Steps p.tables e below (T4.setTop (mkF m 17 #[.val (.ref u0), .val (.ref u1), .val (.int (0 : Int32)), .val (.int (0 : Int32)), .val .null, .unset] [])) _
    refine XS.aloadN X4.here hx rfl (hb hby d11_17) rfl rfl ?_
    show Steps p.tables e below (T4.setTop (mkF m 18 #[.val (.ref u0), .val (.ref u1), .val (.int (0 : Int32)), .val (.int (0 : Int32)), .val .null, .unset] [(.ref u0)])) _
    refine ldcAgain X4 hx hZ2 hown2 (hw _ (List.mem_of_getElem? (i := 145) rfl)) Lit2 (g := (mkF m 18 #[.val (.ref u0), .val (.ref u1), .val (.int (0 : Int32)), .val (.int (0 : Int32)), .val .null, .unset] [(.ref u0)])) rfl (hb hby d11_18) _ ?_
    show Steps p.tables e below (T4.setTop (mkF m 20 #[.val (.ref u0), .val (.ref u1), .val (.int (0 : Int32)), .val (.int (0 : Int32)), .val .null, .unset] [(.ref a2), (.ref u0)])) _
    refine st5 _ ?_
    show Steps p.tables e below (T5.setTop (mkF m 23 #[.val (.ref u0), .val (.ref u1), .val (.int (0 : Int32)), .val (.int (0 : Int32)), .val .null, .unset] [(.int (0 : Int32)), (.ref u0)])) _
    refine st10 _ ?_
    show Steps p.tables e below (T10.setTop (mkF m 26 #[.val (.ref u0), .val (.ref u1), .val (.int (0 : Int32)), .val (.int (0 : Int32)), .val .null, .unset] [])) _
    exact X10.returnOut hx Bd.returns (hb hby d11_26) hr
  · show Q11e Z u0 u1  h0 n0 _ T10.heap _
    rw [e10]
    have cy11 := (LA2.other W4 (Ne.symm LU2.2))
    have cy12 := (cy11.other W10 (Ne.symm LU2.2))
    have hcd0 : ((0 : Int32).toInt8.toInt32) = (0 : Int32) := by decide
    have FC0 := Fw10
    rw [hcd0] at FC0
    exact ⟨rfl, N10, Kp10, bb2, _, _, _, (cy9.wr W10), (Fw4.other W10 (Or.inr (slot_ne (Or.inr (hw _ (List.mem_of_getElem? (i := 4) rfl))) (Or.inr (hw _ (List.mem_of_getElem? (i := 5) rfl))) (by decide) (t := (.array .byte)) (t' := .byte) (by decide) (by decide)))), FC0, cy12, Or.inl ⟨rfl, rfl, rfl, (fun _ hx => nomatch hx)⟩, (fun _ hx => nomatch hx), by decide⟩
theorem d10_0 : decode jdk_42_method_3_code 0 = .ok (.aload_n 0, 1) := by decide +kernel
theorem d10_1 : decode jdk_42_method_3_code 1 = .ok (.aload_n 1, 1) := by decide +kernel
theorem d10_2 : decode jdk_42_method_3_code 2 = .ok (.iconst 0, 1) := by decide +kernel
theorem d10_3 : decode jdk_42_method_3_code 3 = .ok (.aload_n 1, 1) := by decide +kernel
theorem d10_4 : decode jdk_42_method_3_code 4 = .ok (.arraylength, 1) := by decide +kernel
theorem d10_5 : decode jdk_42_method_3_code 5 = .ok (.aconst_null, 1) := by decide +kernel
theorem d10_6 : decode jdk_42_method_3_code 6 = .ok (.invokespecial 27, 3) := by decide +kernel
theorem d10_9 : decode jdk_42_method_3_code 9 = .ok (.return_, 1) := by decide +kernel
theorem pn_10 : plainName "java/lang/String" = true := by first | (simp [plainName, overriddenIn]; done) | decide +kernel
theorem pd_2 : parseMethodDescriptor "([CIILjava/lang/Void;)V" = some ⟨[(.array .char), .int, .int, (.object "java/lang/Void")], none⟩ := by decide +kernel
theorem ef_10e (m : MethodId) (u0 : Addr) (u1 : Addr)  : entryFrame m #[(.ref u0), (.ref u1)] 2 = mkF m 0 #[.val (.ref u0), .val (.ref u1)] [] := by first | (simp [entryFrame, mkF, argsToLocals, Value.category]; done) | rfl
def Q10e (Z : State) (u0 : Addr) (u1 : Addr) (kC : ClassId) (dC : Value) (h0 : Heap) (n0 : Nat) (v : Option Value) (h : Heap) (L : List Loc) : Prop := v = none ∧ Fr n0 L ∧ Keep h0 h [u0] ∧ own_Str Z h u0 []
set_option maxRecDepth 65536 in
set_option maxHeartbeats 40000000 in
theorem rm10e (l : Launch) (Z : State) (a0 : Array Value) (hw : ∀ d ∈ tables_1, d.before a0 Z = true) (ws : List Jvm.Cond) (u0 : Addr) (u1 : Addr) (kC : ClassId) (dC : Value) (h0 : Heap) (n0 : Nat) (Z0 : n0 ≤ h0.size) (E0 : Exa Z h0 u0 "java/lang/String") (g0 : n0 ≤ u0) (F_value : Fld Z h0 u0 "java/lang/String" "value" "[B" .null) (F_coder : Fld Z h0 u0 "java/lang/String" "coder" "B" (.int (0 : Int32))) (V0 : Arv Z h0 u1 kC .char (0 : Int32) [] dC) :
    MetFree l (⟨"java/lang/String", "<init>", "([C)V"⟩ : MethodName) (head1 (Jvm.Cond.code (⟨"java/lang/String", "<init>", "([C)V"⟩ : MethodName) jdk_42_method_3_code 2 none :: ws) ({ frames := 2, cells := 2, slots := 4, locals := 29 } : Room)) (fun a U => a = #[(.ref u0), (.ref u1)] ∧ Z.Warmed39 U.vm ∧ U.heap = h0 ∧ own_OC Z [("com/example/ensyn/ensyn/region/NetClassNamedPinLaw", 7), ("com/example/ensyn/ensyn/region/NetClassNamedPinLaw", 9), ("com/example/ensyn/ensyn/region/NetClassNamedPinLaw", 11), ("com/example/ensyn/ensyn/region/NetClassNamedPinLaw", 13), ("java/lang/String", 7)] U.vm h0 n0) (fun _ _ _ _ _ => True) (fun _ U o U' => ∃ v L, o = .returned v ∧ Q10e Z u0 u1 kC dC h0 n0 v U'.heap L ∧ CHr Z [("com/example/ensyn/ensyn/region/NetClassNamedPinLaw", 7), ("com/example/ensyn/ensyn/region/NetClassNamedPinLaw", 9), ("com/example/ensyn/ensyn/region/NetClassNamedPinLaw", 11), ("com/example/ensyn/ensyn/region/NetClassNamedPinLaw", 13), ("java/lang/String", 7)] U.vm U.heap U'.vm U'.heap ∧ ReturnedEndW U o U' L ({ frames := 2, cells := 2, slots := 4, locals := 29 } : Room).cells ({ frames := 2, cells := 2, slots := 4, locals := 29 } : Room).slots) := by
  refine MetFree.of_bodySF (plainFor_of_name pn_10) hisR ?_
  intro p e s m args below meth c s₁ Bd hml0 hP hK
  obtain ⟨rfl, hZ, hh, hOC⟩ := hP
  have hx := Bd.exec
  have hby := Bd.bytes
  have hml : c.maxLocals = 2 := hml0
  have hown : s.vm.findClass "java/lang/String" = some m.cls := findClass_of_methodNamed Bd.named
  have hnm := (name_of_methodNamed Bd.named Bd.method).1
  have X0 : Stand p l e ({ frames := 2, cells := 2, slots := 4, locals := 29 } : Room) (s.setVm s.vm) m #[(.ref u0), (.ref u1)] below meth c s₁ [] 0 0 := Stand.of_body Bd
  have e0 : s₁.heap = h0 := by rw [← hh, Bd.state]; rfl
  have N0 := Fr.nil n0
  have pre0 : ∀ t, Steps p.tables e below (s₁.setTop (mkF m 0 #[.val (.ref u0), .val (.ref u1)] [])) t → Steps p.tables e below (s₁.setTop (entryFrame m #[(.ref u0), (.ref u1)] 2)) t := fun t k => castTop (ef_10e m u0 u1) k
  show Done p e below _ _
  refine Done.of ?_ pre0
  have hS0 : s.Since s.vm 0 := (State.WarmedH.refl s).since 0
  have hEW : EW Z a0 [("com/example/ensyn/ensyn/region/NetClassNamedPinLaw", 7), ("com/example/ensyn/ensyn/region/NetClassNamedPinLaw", 9), ("com/example/ensyn/ensyn/region/NetClassNamedPinLaw", 11), ("com/example/ensyn/ensyn/region/NetClassNamedPinLaw", 13), ("java/lang/String", 7)] := (EW.cons (hw _ (List.mem_of_getElem? (i := 0) rfl)) (by decide +kernel) (EW.cons (hw _ (List.mem_of_getElem? (i := 142) rfl)) (by decide +kernel) (EW.cons (hw _ (List.mem_of_getElem? (i := 141) rfl)) (by decide +kernel) (EW.cons (hw _ (List.mem_of_getElem? (i := 143) rfl)) (by decide +kernel) (EW.cons (hw _ (List.mem_of_getElem? (i := 145) rfl)) (by decide +kernel) EW.nil)))))
  obtain ⟨cl1, Ar1, qq1, S1, M1, H1, G1⟩ := id V0
  obtain ⟨_, _, ⟨T2, L2, k2, n2⟩, -, Xq2, hSq2, hgq2, ⟨Lc2, hQ2, l2, y2, z2, cr2⟩, st2⟩ := X0.specialBackS hx (y := (⟨"java/lang/String", "<init>", "([CIILjava/lang/Void;)V"⟩ : MethodName)) rfl hown (mvT hZ (hw _ (List.mem_of_getElem? (i := 57) rfl))) (mvT hZ (hw _ (List.mem_of_getElem? (i := 58) rfl))) (mvT hZ (hw _ (List.mem_of_getElem? (i := 60) rfl))) (by decide) (own_backWR (W := 0) (rm11e l Z a0 hw [] u0 u1 h0 n0 Z0 E0 g0 F_value F_coder) hZ (hw _ (List.mem_of_getElem? (i := 60) rfl)) (hw _ (List.mem_of_getElem? (i := 1) rfl)) (by decide) (by decide) hEW hOC) (g := (mkF m 6 #[.val (.ref u0), .val (.ref u1)] [.null, (.int (0 : Int32)), (.int (0 : Int32)), (.ref u1), (.ref u0)])) rfl (by rw [hml]; rfl) (Steps.refl _) (a := u0) (argsL := [(.ref u1), (.int (0 : Int32)), (.int (0 : Int32)), .null]) (rest := []) (lenOf pd_2 rfl) rfl (by show 2 * 0 + _ ≤ _; exact Nat.le_of_eq rfl) (hb hby d10_6) (fun _ _ => ⟨rfl, e0, (by decide : 0 + 2 ≤ _), (by decide : 0 + 4 ≤ _)⟩)
  dsimp only [Pt.U, Pt.locs, Pt.cells, Pt.slots] at Xq2 hSq2 hgq2 l2 y2 z2 st2 hQ2 cr2
  rw [l2, y2, z2] at Xq2
  have X2 : Stand p l e _ (s.setVm T2.vm) m _ below meth c T2 _ _ _ := Xq2
  have hS2 := foldS hS0 (by rw [e0]; exact (Nat.zero_le _)) hSq2 hgq2
  have hZ2 : Z.Warmed39 (s.setVm T2.vm).vm := State.Warmed39.trans (t := (s.setVm s.vm)) hZ hSq2.1
  have hown2 : (s.setVm T2.vm).vm.findClass "java/lang/String" = some m.cls := by show T2.vm.findClass _ = _; rw [hSq2.1.alike.findClass]; exact hown
  obtain ⟨rfl, N2q, K2q, TS2⟩ := hQ2
  have N2 := Fr.app N0 N2q
  have Z2 : n0 ≤ T2.heap.size := Nat.le_trans Z0 K2q.1
  have Kp2 := (Keep.refl h0 [u0]).trans K2q (fun x hx => Or.inl hx)
  obtain ⟨fs, hr, hrun, hended, hEnd⟩ := X2.leaveW hS2 (Nat.le_refl _) (v := none) (fun _ => rfl)
  have R_0 := CHr.refl hOC.1
  have R_1 := CHr.trans R_0 cr2
  have R_z := CHr.trans R_1 (CHv.at X2 hZ2 hEW R_1.1)
  have RRz : CHr Z [("com/example/ensyn/ensyn/region/NetClassNamedPinLaw", 7), ("com/example/ensyn/ensyn/region/NetClassNamedPinLaw", 9), ("com/example/ensyn/ensyn/region/NetClassNamedPinLaw", 11), ("com/example/ensyn/ensyn/region/NetClassNamedPinLaw", 13), ("java/lang/String", 7)] s.vm s.heap T2.vm T2.heap := by
    rw [hh]
    exact R_z
  refine ⟨_, _, ?_, hrun, hended, _, _, rfl, ?_, RRz, hEnd.1, hEnd.2.1, hEnd.2.2.1, hEnd.2.2.2.mono (by decide) (by decide)⟩
  · show Steps p.tables e below (s₁.setTop (mkF m 0 #[.val (.ref u0), .val (.ref u1)] [])) _
    refine XS.aloadN X0.here hx rfl (hb hby d10_0) rfl rfl ?_
    show Steps p.tables e below (s₁.setTop (mkF m 1 #[.val (.ref u0), .val (.ref u1)] [(.ref u0)])) _
    refine XS.aloadN X0.here hx rfl (hb hby d10_1) rfl rfl ?_
    show Steps p.tables e below (s₁.setTop (mkF m 2 #[.val (.ref u0), .val (.ref u1)] [(.ref u1), (.ref u0)])) _
    refine XS.iconst X0.here hx rfl (hb hby d10_2) ?_
    show Steps p.tables e below (s₁.setTop (mkF m 3 #[.val (.ref u0), .val (.ref u1)] [(.int (0 : Int32)), (.ref u1), (.ref u0)])) _
    refine XS.aloadN X0.here hx rfl (hb hby d10_3) rfl rfl ?_
    show Steps p.tables e below (s₁.setTop (mkF m 4 #[.val (.ref u0), .val (.ref u1)] [(.ref u1), (.int (0 : Int32)), (.ref u1), (.ref u0)])) _
    refine X0.arraylength hx (by rw [e0]; exact Ar1.1) (State.isArrayOf_alike hZ.alike Ar1.2.1) (g := (mkF m 4 #[.val (.ref u0), .val (.ref u1)] [(.ref u1), (.int (0 : Int32)), (.ref u1), (.ref u0)])) rfl rfl (hb hby d10_4) _ ?_
    rw [len_of S1 M1]
    show Steps p.tables e below (s₁.setTop (mkF m 5 #[.val (.ref u0), .val (.ref u1)] [(.int (0 : Int32)), (.int (0 : Int32)), (.ref u1), (.ref u0)])) _
    refine XS.aconstNull X0.here hx rfl (hb hby d10_5) ?_
    show Steps p.tables e below (s₁.setTop (mkF m 6 #[.val (.ref u0), .val (.ref u1)] [.null, (.int (0 : Int32)), (.int (0 : Int32)), (.ref u1), (.ref u0)])) _
    refine st2.trans ?_
    show Steps p.tables e below (T2.setTop (mkF m 9 #[.val (.ref u0), .val (.ref u1)] [])) _
    exact X2.returnOut hx Bd.returns (hb hby d10_9) hr
  · show Q10e Z u0 u1 kC dC h0 n0 _ T2.heap _
    exact ⟨rfl, N2, Kp2, TS2⟩
theorem d9_0 : decode method_4_code 0 = .ok (.iload_n 0, 1) := by decide +kernel
theorem d9_1 : decode method_4_code 1 = .ok (.ifCond .ne 14, 3) := by decide +kernel
theorem d9_4 : decode method_4_code 4 = .ok (.new 16, 3) := by decide +kernel
theorem d9_7 : decode method_4_code 7 = .ok (.dup, 1) := by decide +kernel
theorem d9_8 : decode method_4_code 8 = .ok (.iconst 0, 1) := by decide +kernel
theorem d9_9 : decode method_4_code 9 = .ok (.newarray .char, 2) := by decide +kernel
theorem d9_11 : decode method_4_code 11 = .ok (.invokespecial 71, 3) := by decide +kernel
theorem d9_14 : decode method_4_code 14 = .ok (.areturn, 1) := by decide +kernel
theorem pn_9 : plainName "com/example/ensyn/ensyn/region/NetClassNamedPinLaw" = true := by first | (simp [plainName, overriddenIn]; done) | decide +kernel
theorem pd_3 : parseMethodDescriptor "([C)V" = some ⟨[(.array .char)], none⟩ := by decide +kernel
theorem ef_9e (m : MethodId) (p0 : Int32) (p1 : Int32) (p2 : Int32) (p3 : Int32) (p4 : Int32) (p5 : Int32) (p6 : Int32)  : entryFrame m #[(.int p0), (.int p1), (.int p2), (.int p3), (.int p4), (.int p5), (.int p6)] 7 = mkF m 0 #[.val (.int p0), .val (.int p1), .val (.int p2), .val (.int p3), .val (.int p4), .val (.int p5), .val (.int p6)] [] := by first | (simp [entryFrame, mkF, argsToLocals, Value.category]; done) | rfl
def Q9e (Z : State) (p0 : Int32) (p1 : Int32) (p2 : Int32) (p3 : Int32) (p4 : Int32) (p5 : Int32) (p6 : Int32) (h0 : Heap) (n0 : Nat) (v : Option Value) (h : Heap) (L : List Loc) : Prop := ∃ (x : Addr) (cs : List Int32), v = some (.ref x) ∧ Fr n0 L ∧ Keep h0 h [] ∧ own_Str Z h x cs ∧ ∀ c ∈ cs, ¬ c < 0 ∧ ¬ (255 : Int32) < c
set_option maxRecDepth 65536 in
set_option maxHeartbeats 40000000 in
theorem rm9e (l : Launch) (Z : State) (a0 : Array Value) (hw : ∀ d ∈ tables_1, d.before a0 Z = true) (ws : List Jvm.Cond) (p0 : Int32) (p1 : Int32) (p2 : Int32) (p3 : Int32) (p4 : Int32) (p5 : Int32) (p6 : Int32) (h0 : Heap) (n0 : Nat) (Z0 : n0 ≤ h0.size) (hz : p0 = (0 : Int32)) :
    MetFree l (⟨"com/example/ensyn/ensyn/region/NetClassNamedPinLaw", "make", "(ICCCCCC)Ljava/lang/String;"⟩ : MethodName) (head1 (Jvm.Cond.code (⟨"com/example/ensyn/ensyn/region/NetClassNamedPinLaw", "make", "(ICCCCCC)Ljava/lang/String;"⟩ : MethodName) method_4_code 7 (some (.object "java/lang/String")) :: ws) ({ frames := 3, cells := 4, slots := 16, locals := 43 } : Room)) (fun a U => a = #[(.int p0), (.int p1), (.int p2), (.int p3), (.int p4), (.int p5), (.int p6)] ∧ Z.Warmed39 U.vm ∧ U.heap = h0 ∧ own_OC Z [("com/example/ensyn/ensyn/region/NetClassNamedPinLaw", 7), ("com/example/ensyn/ensyn/region/NetClassNamedPinLaw", 9), ("com/example/ensyn/ensyn/region/NetClassNamedPinLaw", 11), ("com/example/ensyn/ensyn/region/NetClassNamedPinLaw", 13), ("java/lang/String", 7)] U.vm h0 n0) (fun _ _ _ _ _ => True) (fun _ U o U' => ∃ v L, o = .returned v ∧ Q9e Z p0 p1 p2 p3 p4 p5 p6 h0 n0 v U'.heap L ∧ CHr Z [("com/example/ensyn/ensyn/region/NetClassNamedPinLaw", 7), ("com/example/ensyn/ensyn/region/NetClassNamedPinLaw", 9), ("com/example/ensyn/ensyn/region/NetClassNamedPinLaw", 11), ("com/example/ensyn/ensyn/region/NetClassNamedPinLaw", 13), ("java/lang/String", 7)] U.vm U.heap U'.vm U'.heap ∧ ReturnedEndW U o U' L ({ frames := 3, cells := 4, slots := 16, locals := 43 } : Room).cells ({ frames := 3, cells := 4, slots := 16, locals := 43 } : Room).slots) := by
  refine MetFree.of_bodySF (plainFor_of_name pn_9) hisR ?_
  intro p e s m args below meth c s₁ Bd hml0 hP hK
  obtain ⟨rfl, hZ, hh, hOC⟩ := hP
  have hx := Bd.exec
  have hby := Bd.bytes
  have hml : c.maxLocals = 7 := hml0
  have hown : s.vm.findClass "com/example/ensyn/ensyn/region/NetClassNamedPinLaw" = some m.cls := findClass_of_methodNamed Bd.named
  have hnm := (name_of_methodNamed Bd.named Bd.method).1
  have X0 : Stand p l e ({ frames := 3, cells := 4, slots := 16, locals := 43 } : Room) (s.setVm s.vm) m #[(.int p0), (.int p1), (.int p2), (.int p3), (.int p4), (.int p5), (.int p6)] below meth c s₁ [] 0 0 := Stand.of_body Bd
  have e0 : s₁.heap = h0 := by rw [← hh, Bd.state]; rfl
  have N0 := Fr.nil n0
  have pre0 : ∀ t, Steps p.tables e below (s₁.setTop (mkF m 0 #[.val (.int p0), .val (.int p1), .val (.int p2), .val (.int p3), .val (.int p4), .val (.int p5), .val (.int p6)] [])) t → Steps p.tables e below (s₁.setTop (entryFrame m #[(.int p0), (.int p1), (.int p2), (.int p3), (.int p4), (.int p5), (.int p6)] 7)) t := fun t k => castTop (ef_9e m p0 p1 p2 p3 p4 p5 p6) k
  show Done p e below _ _
  refine Done.of ?_ pre0
  have hS0 : s.Since s.vm 0 := (State.WarmedH.refl s).since 0
  have hEW : EW Z a0 [("com/example/ensyn/ensyn/region/NetClassNamedPinLaw", 7), ("com/example/ensyn/ensyn/region/NetClassNamedPinLaw", 9), ("com/example/ensyn/ensyn/region/NetClassNamedPinLaw", 11), ("com/example/ensyn/ensyn/region/NetClassNamedPinLaw", 13), ("java/lang/String", 7)] := (EW.cons (hw _ (List.mem_of_getElem? (i := 0) rfl)) (by decide +kernel) (EW.cons (hw _ (List.mem_of_getElem? (i := 142) rfl)) (by decide +kernel) (EW.cons (hw _ (List.mem_of_getElem? (i := 141) rfl)) (by decide +kernel) (EW.cons (hw _ (List.mem_of_getElem? (i := 143) rfl)) (by decide +kernel) (EW.cons (hw _ (List.mem_of_getElem? (i := 145) rfl)) (by decide +kernel) EW.nil)))))
  have hd1_1 : p0 = (0 : Int32) := by exact hz
  obtain ⟨T2, h2, X2, e2, E2, A2, D2, -, st2⟩ := newO X0 hx hZ hown (hw _ (List.mem_of_getElem? (i := 52) rfl)) (hw _ (List.mem_of_getElem? (i := 2) rfl)) (hw _ (List.mem_of_getElem? (i := 1) rfl)) e0 (g := (mkF m 4 #[.val (.int p0), .val (.int p1), .val (.int p2), .val (.int p3), .val (.int p4), .val (.int p5), .val (.int p6)] [])) rfl (hb hby d9_4) (by decide) (by decide)
  obtain ⟨b2, g2⟩ : ∃ z, z = h0.size := ⟨_, rfl⟩
  rw [← g2] at A2 D2 st2
  have gnb2 : n0 ≤ b2 := Nat.le_trans Z0 (Nat.le_of_eq g2.symm)
  have Z2 : n0 ≤ h2.size := Nat.le_trans Z0 E2.1
  have szb2 : h0.size ≤ b2 := Nat.le_trans (Keep.refl h0 []).1 (Nat.le_of_eq g2.symm)
  have Kp2 := (Keep.refl h0 []).ext E2
  have F2_value : Fld Z h2 b2 "java/lang/String" "value" "[B" .null := D2 (Or.inr (hw _ (List.mem_of_getElem? (i := 4) rfl))) (ty := (.array .byte)) (by decide)
  have F2_coder : Fld Z h2 b2 "java/lang/String" "coder" "B" (.int (0 : Int32)) := D2 (Or.inr (hw _ (List.mem_of_getElem? (i := 5) rfl))) (ty := .byte) (by decide)
  obtain ⟨T3, h3, k3, X3, e3, E3, A3, st3⟩ := newP X2 hx hZ (hw _ (List.mem_of_getElem? (i := 53) rfl)) e2 (g := (mkF m 9 #[.val (.int p0), .val (.int p1), .val (.int p2), .val (.int p3), .val (.int p4), .val (.int p5), .val (.int p6)] [(.int (0 : Int32)), (.ref b2), (.ref b2)])) rfl (hb hby d9_9) rfl (by decide) (cap := 0) (by decide) (by decide) (by decide) (by decide)
  obtain ⟨b3, g3⟩ : ∃ z, z = h2.size := ⟨_, rfl⟩
  rw [← g3] at A3 st3
  have gnb3 : n0 ≤ b3 := Nat.le_trans Z2 (Nat.le_of_eq g3.symm)
  have Z3 : n0 ≤ h3.size := Nat.le_trans Z2 E3.1
  have szb3 : h0.size ≤ b3 := Nat.le_trans Kp2.1 (Nat.le_of_eq g3.symm)
  have Kp3 := Kp2.ext E3
  have ne_3_1 : b2 ≠ b3 := Nat.ne_of_lt (Nat.lt_of_lt_of_le A2.lt (Nat.le_of_eq g3.symm))
  have V3 : Arv Z h3 b3 k3 .char (0 : Int32) [] (.int (0 : Int32)) := (Arv.new A3 (by decide)).pad (pad_rep [] (.int (0 : Int32)) 0)
  obtain ⟨_, _, ⟨T4, L4, k4, n4⟩, -, Xq4, hSq4, hgq4, ⟨Lc4, hQ4, l4, y4, z4, cr4⟩, st4⟩ := X3.specialBackS hx (y := (⟨"java/lang/String", "<init>", "([C)V"⟩ : MethodName)) rfl hown (mvT hZ (hw _ (List.mem_of_getElem? (i := 54) rfl))) (mvT hZ (hw _ (List.mem_of_getElem? (i := 55) rfl))) (mvT hZ (hw _ (List.mem_of_getElem? (i := 56) rfl))) (by decide) (own_backWR (W := 1) (rm10e l Z a0 hw [] b2 b3 k3 _ h3 n0 Z3 (A2.ext E3) gnb2 (F2_value.ext E3) (F2_coder.ext E3) V3) hZ (hw _ (List.mem_of_getElem? (i := 56) rfl)) (hw _ (List.mem_of_getElem? (i := 1) rfl)) (by decide) (by decide) hEW (own_OC_ext (own_OC_ext hOC E2) E3)) (g := (mkF m 11 #[.val (.int p0), .val (.int p1), .val (.int p2), .val (.int p3), .val (.int p4), .val (.int p5), .val (.int p6)] [(.ref b3), (.ref b2), (.ref b2)])) rfl (by rw [hml]; rfl) (Steps.refl _) (a := b2) (argsL := [(.ref b3)]) (rest := [(.ref b2)]) (lenOf pd_3 rfl) rfl (by show 2 * 0 + _ ≤ _; exact Nat.le_of_eq rfl) (hb hby d9_11) (fun _ _ => ⟨rfl, e3, (by decide : 2 + 2 ≤ _), (by decide : 4 + 4 ≤ _)⟩)
  dsimp only [Pt.U, Pt.locs, Pt.cells, Pt.slots] at Xq4 hSq4 hgq4 l4 y4 z4 st4 hQ4 cr4
  rw [l4, y4, z4] at Xq4
  have X4 : Stand p l e _ (s.setVm T4.vm) m _ below meth c T4 _ _ _ := Xq4
  have hS4 := foldS hS0 (by rw [e3]; exact (Nat.zero_le _)) hSq4 hgq4
  have hZ4 : Z.Warmed39 (s.setVm T4.vm).vm := State.Warmed39.trans (t := (s.setVm s.vm)) hZ hSq4.1
  have hown4 : (s.setVm T4.vm).vm.findClass "com/example/ensyn/ensyn/region/NetClassNamedPinLaw" = some m.cls := by show T4.vm.findClass _ = _; rw [hSq4.1.alike.findClass]; exact hown
  obtain ⟨rfl, N4q, K4q, TS4⟩ := hQ4
  have N4 := Fr.app N0 N4q
  have Z4 : n0 ≤ T4.heap.size := Nat.le_trans Z3 K4q.1
  have Kp4 := Kp3.trans K4q (fun x hx => Or.inr (by cases List.mem_singleton.mp hx; exact szb2))
  obtain ⟨fs, hr, hrun, hended, hEnd⟩ := X4.leaveW hS4 (Nat.le_refl _) (v := some (.ref b2)) (fun h => by rw [Bd.returns] at h; cases h)
  have R_0 := CHr.refl hOC.1
  have R_1 := CHr.trans R_0 (CHr.ext E2 R_0.1)
  have R_2 := CHr.trans R_1 (CHr.ext E3 R_1.1)
  have R_3 := CHr.trans R_2 cr4
  have R_z := CHr.trans R_3 (CHv.at X4 hZ4 hEW R_3.1)
  have RRz : CHr Z [("com/example/ensyn/ensyn/region/NetClassNamedPinLaw", 7), ("com/example/ensyn/ensyn/region/NetClassNamedPinLaw", 9), ("com/example/ensyn/ensyn/region/NetClassNamedPinLaw", 11), ("com/example/ensyn/ensyn/region/NetClassNamedPinLaw", 13), ("java/lang/String", 7)] s.vm s.heap T4.vm T4.heap := by
    rw [hh]
    exact R_z
  refine ⟨_, _, ?_, hrun, hended, _, _, rfl, ?_, RRz, hEnd.1, hEnd.2.1, hEnd.2.2.1, hEnd.2.2.2.mono (by decide) (by decide)⟩
  · show Steps p.tables e below (s₁.setTop (mkF m 0 #[.val (.int p0), .val (.int p1), .val (.int p2), .val (.int p3), .val (.int p4), .val (.int p5), .val (.int p6)] [])) _
    refine XS.iloadN X0.here hx rfl (hb hby d9_0) rfl ?_
    show Steps p.tables e below (s₁.setTop (mkF m 1 #[.val (.int p0), .val (.int p1), .val (.int p2), .val (.int p3), .val (.int p4), .val (.int p5), .val (.int p6)] [(.int p0)])) _
    refine XS.ifNo X0.here hx rfl (hb hby d9_1) rfl ((if0 _ _).trans (teq hd1_1).2) ?_
    show Steps p.tables e below (s₁.setTop (mkF m 4 #[.val (.int p0), .val (.int p1), .val (.int p2), .val (.int p3), .val (.int p4), .val (.int p5), .val (.int p6)] [])) _
    refine st2 _ ?_
    show Steps p.tables e below (T2.setTop (mkF m 7 #[.val (.int p0), .val (.int p1), .val (.int p2), .val (.int p3), .val (.int p4), .val (.int p5), .val (.int p6)] [(.ref b2)])) _
    refine XS.dup X2.here hx rfl (hb hby d9_7) rfl rfl ?_
    show Steps p.tables e below (T2.setTop (mkF m 8 #[.val (.int p0), .val (.int p1), .val (.int p2), .val (.int p3), .val (.int p4), .val (.int p5), .val (.int p6)] [(.ref b2), (.ref b2)])) _
    refine XS.iconst X2.here hx rfl (hb hby d9_8) ?_
    show Steps p.tables e below (T2.setTop (mkF m 9 #[.val (.int p0), .val (.int p1), .val (.int p2), .val (.int p3), .val (.int p4), .val (.int p5), .val (.int p6)] [(.int (0 : Int32)), (.ref b2), (.ref b2)])) _
    refine st3 _ ?_
    show Steps p.tables e below (T3.setTop (mkF m 11 #[.val (.int p0), .val (.int p1), .val (.int p2), .val (.int p3), .val (.int p4), .val (.int p5), .val (.int p6)] [(.ref b3), (.ref b2), (.ref b2)])) _
    refine st4.trans ?_
    show Steps p.tables e below (T4.setTop (mkF m 14 #[.val (.int p0), .val (.int p1), .val (.int p2), .val (.int p3), .val (.int p4), .val (.int p5), .val (.int p6)] [(.ref b2)])) _
    jvm_step X4.here [X4.here.top, hx, (hb hby d9_14), X4.method', Bd.returns, Value.isRef, FieldType.isReference]
    first | (intro acts; rw [hr _ acts rfl rfl rfl]) | rw [hr _ _ rfl rfl rfl]
    exact Steps.refl _
  · show Q9e Z p0 p1 p2 p3 p4 p5 p6  h0 n0 _ T4.heap _
    exact ⟨b2, _, rfl, N4, Kp4, TS4, (fun _ hx => nomatch hx)⟩
theorem d9_15 : decode method_4_code 15 = .ok (.iload_n 0, 1) := by decide +kernel
theorem d9_16 : decode method_4_code 16 = .ok (.iconst 1, 1) := by decide +kernel
theorem d9_17 : decode method_4_code 17 = .ok (.if_icmp .ne 18, 3) := by decide +kernel
theorem d9_20 : decode method_4_code 20 = .ok (.new 16, 3) := by decide +kernel
theorem d9_23 : decode method_4_code 23 = .ok (.dup, 1) := by decide +kernel
theorem d9_24 : decode method_4_code 24 = .ok (.iconst 1, 1) := by decide +kernel
theorem d9_25 : decode method_4_code 25 = .ok (.newarray .char, 2) := by decide +kernel
theorem d9_27 : decode method_4_code 27 = .ok (.dup, 1) := by decide +kernel
theorem d9_28 : decode method_4_code 28 = .ok (.iconst 0, 1) := by decide +kernel
theorem d9_29 : decode method_4_code 29 = .ok (.iload_n 1, 1) := by decide +kernel
theorem d9_30 : decode method_4_code 30 = .ok (.castore, 1) := by decide +kernel
theorem d9_31 : decode method_4_code 31 = .ok (.invokespecial 71, 3) := by decide +kernel
theorem d9_34 : decode method_4_code 34 = .ok (.areturn, 1) := by decide +kernel
theorem d9_35 : decode method_4_code 35 = .ok (.iload_n 0, 1) := by decide +kernel
theorem d9_36 : decode method_4_code 36 = .ok (.iconst 2, 1) := by decide +kernel
theorem d9_37 : decode method_4_code 37 = .ok (.if_icmp .ne 22, 3) := by decide +kernel
theorem d9_40 : decode method_4_code 40 = .ok (.new 16, 3) := by decide +kernel
theorem d9_43 : decode method_4_code 43 = .ok (.dup, 1) := by decide +kernel
theorem d9_44 : decode method_4_code 44 = .ok (.iconst 2, 1) := by decide +kernel
theorem d9_45 : decode method_4_code 45 = .ok (.newarray .char, 2) := by decide +kernel
theorem d9_47 : decode method_4_code 47 = .ok (.dup, 1) := by decide +kernel
theorem d9_48 : decode method_4_code 48 = .ok (.iconst 0, 1) := by decide +kernel
theorem d9_49 : decode method_4_code 49 = .ok (.iload_n 1, 1) := by decide +kernel
theorem d9_50 : decode method_4_code 50 = .ok (.castore, 1) := by decide +kernel
theorem d9_51 : decode method_4_code 51 = .ok (.dup, 1) := by decide +kernel
theorem d9_52 : decode method_4_code 52 = .ok (.iconst 1, 1) := by decide +kernel
theorem d9_53 : decode method_4_code 53 = .ok (.iload_n 2, 1) := by decide +kernel
theorem d9_54 : decode method_4_code 54 = .ok (.castore, 1) := by decide +kernel
theorem d9_55 : decode method_4_code 55 = .ok (.invokespecial 71, 3) := by decide +kernel
theorem d9_58 : decode method_4_code 58 = .ok (.areturn, 1) := by decide +kernel
theorem d9_59 : decode method_4_code 59 = .ok (.iload_n 0, 1) := by decide +kernel
theorem d9_60 : decode method_4_code 60 = .ok (.iconst 3, 1) := by decide +kernel
theorem d9_61 : decode method_4_code 61 = .ok (.if_icmp .ne 26, 3) := by decide +kernel
theorem d9_64 : decode method_4_code 64 = .ok (.new 16, 3) := by decide +kernel
theorem d9_67 : decode method_4_code 67 = .ok (.dup, 1) := by decide +kernel
theorem d9_68 : decode method_4_code 68 = .ok (.iconst 3, 1) := by decide +kernel
theorem d9_69 : decode method_4_code 69 = .ok (.newarray .char, 2) := by decide +kernel
theorem d9_71 : decode method_4_code 71 = .ok (.dup, 1) := by decide +kernel
theorem d9_72 : decode method_4_code 72 = .ok (.iconst 0, 1) := by decide +kernel
theorem d9_73 : decode method_4_code 73 = .ok (.iload_n 1, 1) := by decide +kernel
theorem d9_74 : decode method_4_code 74 = .ok (.castore, 1) := by decide +kernel
theorem d9_75 : decode method_4_code 75 = .ok (.dup, 1) := by decide +kernel
theorem d9_76 : decode method_4_code 76 = .ok (.iconst 1, 1) := by decide +kernel
theorem d9_77 : decode method_4_code 77 = .ok (.iload_n 2, 1) := by decide +kernel
theorem d9_78 : decode method_4_code 78 = .ok (.castore, 1) := by decide +kernel
theorem d9_79 : decode method_4_code 79 = .ok (.dup, 1) := by decide +kernel
theorem d9_80 : decode method_4_code 80 = .ok (.iconst 2, 1) := by decide +kernel
theorem d9_81 : decode method_4_code 81 = .ok (.iload_n 3, 1) := by decide +kernel
theorem d9_82 : decode method_4_code 82 = .ok (.castore, 1) := by decide +kernel
theorem d9_83 : decode method_4_code 83 = .ok (.invokespecial 71, 3) := by decide +kernel
theorem d9_86 : decode method_4_code 86 = .ok (.areturn, 1) := by decide +kernel
theorem d9_87 : decode method_4_code 87 = .ok (.iload_n 0, 1) := by decide +kernel
theorem d9_88 : decode method_4_code 88 = .ok (.iconst 4, 1) := by decide +kernel
theorem d9_89 : decode method_4_code 89 = .ok (.if_icmp .ne 31, 3) := by decide +kernel
theorem d9_92 : decode method_4_code 92 = .ok (.new 16, 3) := by decide +kernel
theorem d9_95 : decode method_4_code 95 = .ok (.dup, 1) := by decide +kernel
theorem d9_96 : decode method_4_code 96 = .ok (.iconst 4, 1) := by decide +kernel
theorem d9_97 : decode method_4_code 97 = .ok (.newarray .char, 2) := by decide +kernel
theorem d9_99 : decode method_4_code 99 = .ok (.dup, 1) := by decide +kernel
theorem d9_100 : decode method_4_code 100 = .ok (.iconst 0, 1) := by decide +kernel
theorem d9_101 : decode method_4_code 101 = .ok (.iload_n 1, 1) := by decide +kernel
theorem d9_102 : decode method_4_code 102 = .ok (.castore, 1) := by decide +kernel
theorem d9_103 : decode method_4_code 103 = .ok (.dup, 1) := by decide +kernel
theorem d9_104 : decode method_4_code 104 = .ok (.iconst 1, 1) := by decide +kernel
theorem d9_105 : decode method_4_code 105 = .ok (.iload_n 2, 1) := by decide +kernel
theorem d9_106 : decode method_4_code 106 = .ok (.castore, 1) := by decide +kernel
theorem d9_107 : decode method_4_code 107 = .ok (.dup, 1) := by decide +kernel
theorem d9_108 : decode method_4_code 108 = .ok (.iconst 2, 1) := by decide +kernel
theorem d9_109 : decode method_4_code 109 = .ok (.iload_n 3, 1) := by decide +kernel
theorem d9_110 : decode method_4_code 110 = .ok (.castore, 1) := by decide +kernel
theorem d9_111 : decode method_4_code 111 = .ok (.dup, 1) := by decide +kernel
theorem d9_112 : decode method_4_code 112 = .ok (.iconst 3, 1) := by decide +kernel
theorem d9_113 : decode method_4_code 113 = .ok (.iload 4, 2) := by decide +kernel
theorem d9_115 : decode method_4_code 115 = .ok (.castore, 1) := by decide +kernel
theorem d9_116 : decode method_4_code 116 = .ok (.invokespecial 71, 3) := by decide +kernel
theorem d9_119 : decode method_4_code 119 = .ok (.areturn, 1) := by decide +kernel
theorem d9_120 : decode method_4_code 120 = .ok (.iload_n 0, 1) := by decide +kernel
theorem d9_121 : decode method_4_code 121 = .ok (.iconst 5, 1) := by decide +kernel
theorem d9_122 : decode method_4_code 122 = .ok (.if_icmp .ne 36, 3) := by decide +kernel
theorem d9_125 : decode method_4_code 125 = .ok (.new 16, 3) := by decide +kernel
theorem d9_128 : decode method_4_code 128 = .ok (.dup, 1) := by decide +kernel
theorem d9_129 : decode method_4_code 129 = .ok (.iconst 5, 1) := by decide +kernel
theorem d9_130 : decode method_4_code 130 = .ok (.newarray .char, 2) := by decide +kernel
theorem d9_132 : decode method_4_code 132 = .ok (.dup, 1) := by decide +kernel
theorem d9_133 : decode method_4_code 133 = .ok (.iconst 0, 1) := by decide +kernel
theorem d9_134 : decode method_4_code 134 = .ok (.iload_n 1, 1) := by decide +kernel
theorem d9_135 : decode method_4_code 135 = .ok (.castore, 1) := by decide +kernel
theorem d9_136 : decode method_4_code 136 = .ok (.dup, 1) := by decide +kernel
theorem d9_137 : decode method_4_code 137 = .ok (.iconst 1, 1) := by decide +kernel
theorem d9_138 : decode method_4_code 138 = .ok (.iload_n 2, 1) := by decide +kernel
theorem d9_139 : decode method_4_code 139 = .ok (.castore, 1) := by decide +kernel
theorem d9_140 : decode method_4_code 140 = .ok (.dup, 1) := by decide +kernel
theorem d9_141 : decode method_4_code 141 = .ok (.iconst 2, 1) := by decide +kernel
theorem d9_142 : decode method_4_code 142 = .ok (.iload_n 3, 1) := by decide +kernel
theorem d9_143 : decode method_4_code 143 = .ok (.castore, 1) := by decide +kernel
theorem d9_144 : decode method_4_code 144 = .ok (.dup, 1) := by decide +kernel
theorem d9_145 : decode method_4_code 145 = .ok (.iconst 3, 1) := by decide +kernel
theorem d9_146 : decode method_4_code 146 = .ok (.iload 4, 2) := by decide +kernel
theorem d9_148 : decode method_4_code 148 = .ok (.castore, 1) := by decide +kernel
theorem d9_149 : decode method_4_code 149 = .ok (.dup, 1) := by decide +kernel
theorem d9_150 : decode method_4_code 150 = .ok (.iconst 4, 1) := by decide +kernel
theorem d9_151 : decode method_4_code 151 = .ok (.iload 5, 2) := by decide +kernel
theorem d9_153 : decode method_4_code 153 = .ok (.castore, 1) := by decide +kernel
theorem d9_154 : decode method_4_code 154 = .ok (.invokespecial 71, 3) := by decide +kernel
theorem d9_157 : decode method_4_code 157 = .ok (.areturn, 1) := by decide +kernel
theorem d9_158 : decode method_4_code 158 = .ok (.new 16, 3) := by decide +kernel
theorem d9_161 : decode method_4_code 161 = .ok (.dup, 1) := by decide +kernel
theorem d9_162 : decode method_4_code 162 = .ok (.bipush 6, 2) := by decide +kernel
theorem d9_164 : decode method_4_code 164 = .ok (.newarray .char, 2) := by decide +kernel
theorem d9_166 : decode method_4_code 166 = .ok (.dup, 1) := by decide +kernel
theorem d9_167 : decode method_4_code 167 = .ok (.iconst 0, 1) := by decide +kernel
theorem d9_168 : decode method_4_code 168 = .ok (.iload_n 1, 1) := by decide +kernel
theorem d9_169 : decode method_4_code 169 = .ok (.castore, 1) := by decide +kernel
theorem d9_170 : decode method_4_code 170 = .ok (.dup, 1) := by decide +kernel
theorem d9_171 : decode method_4_code 171 = .ok (.iconst 1, 1) := by decide +kernel
theorem d9_172 : decode method_4_code 172 = .ok (.iload_n 2, 1) := by decide +kernel
theorem d9_173 : decode method_4_code 173 = .ok (.castore, 1) := by decide +kernel
theorem d9_174 : decode method_4_code 174 = .ok (.dup, 1) := by decide +kernel
theorem d9_175 : decode method_4_code 175 = .ok (.iconst 2, 1) := by decide +kernel
theorem d9_176 : decode method_4_code 176 = .ok (.iload_n 3, 1) := by decide +kernel
theorem d9_177 : decode method_4_code 177 = .ok (.castore, 1) := by decide +kernel
theorem d9_178 : decode method_4_code 178 = .ok (.dup, 1) := by decide +kernel
theorem d9_179 : decode method_4_code 179 = .ok (.iconst 3, 1) := by decide +kernel
theorem d9_180 : decode method_4_code 180 = .ok (.iload 4, 2) := by decide +kernel
theorem d9_182 : decode method_4_code 182 = .ok (.castore, 1) := by decide +kernel
theorem d9_183 : decode method_4_code 183 = .ok (.dup, 1) := by decide +kernel
theorem d9_184 : decode method_4_code 184 = .ok (.iconst 4, 1) := by decide +kernel
theorem d9_185 : decode method_4_code 185 = .ok (.iload 5, 2) := by decide +kernel
theorem d9_187 : decode method_4_code 187 = .ok (.castore, 1) := by decide +kernel
theorem d9_188 : decode method_4_code 188 = .ok (.dup, 1) := by decide +kernel
theorem d9_189 : decode method_4_code 189 = .ok (.iconst 5, 1) := by decide +kernel
theorem d9_190 : decode method_4_code 190 = .ok (.iload 6, 2) := by decide +kernel
theorem d9_192 : decode method_4_code 192 = .ok (.castore, 1) := by decide +kernel
theorem d9_193 : decode method_4_code 193 = .ok (.invokespecial 71, 3) := by decide +kernel
theorem d9_196 : decode method_4_code 196 = .ok (.areturn, 1) := by decide +kernel
theorem ef_9t (m : MethodId) (p0 : Int32) (p1 : Int32) (p2 : Int32) (p3 : Int32) (p4 : Int32) (p5 : Int32) (p6 : Int32)  : entryFrame m #[(.int p0), (.int p1), (.int p2), (.int p3), (.int p4), (.int p5), (.int p6)] 7 = mkF m 0 #[.val (.int p0), .val (.int p1), .val (.int p2), .val (.int p3), .val (.int p4), .val (.int p5), .val (.int p6)] [] := by first | (simp [entryFrame, mkF, argsToLocals, Value.category]; done) | rfl
def Q9t (Z : State) (p0 : Int32) (p1 : Int32) (p2 : Int32) (p3 : Int32) (p4 : Int32) (p5 : Int32) (p6 : Int32) (cz : Int32) (h0 : Heap) (n0 : Nat) (v : Option Value) (h : Heap) (L : List Loc) : Prop := ∃ (x : Addr) (cs : List Int32), v = some (.ref x) ∧ Fr n0 L ∧ Keep h0 h [] ∧ own_Str Z h x cs ∧ ∀ c ∈ cs, ¬ c < 0 ∧ ¬ (255 : Int32) < c
set_option maxRecDepth 65536 in
set_option maxHeartbeats 40000000 in
theorem rm9t (l : Launch) (Z : State) (a0 : Array Value) (hw : ∀ d ∈ tables_1, d.before a0 Z = true) (ws : List Jvm.Cond) (p0 : Int32) (p1 : Int32) (p2 : Int32) (p3 : Int32) (p4 : Int32) (p5 : Int32) (p6 : Int32) (cz : Int32) (h0 : Heap) (n0 : Nat) (Z0 : n0 ≤ h0.size) (hz : ¬ p0 = (0 : Int32)) (SCS : Sta Z h0 "java/lang/String" "COMPACT_STRINGS" "Z" (.int cz)) (hcs : ¬ cz = (0 : Int32)) (hp1 : ¬ p1 < 0 ∧ ¬ (255 : Int32) < p1) (hp2 : ¬ p2 < 0 ∧ ¬ (255 : Int32) < p2) (hp3 : ¬ p3 < 0 ∧ ¬ (255 : Int32) < p3) (hp4 : ¬ p4 < 0 ∧ ¬ (255 : Int32) < p4) (hp5 : ¬ p5 < 0 ∧ ¬ (255 : Int32) < p5) (hp6 : ¬ p6 < 0 ∧ ¬ (255 : Int32) < p6) :
    MetFree l (⟨"com/example/ensyn/ensyn/region/NetClassNamedPinLaw", "make", "(ICCCCCC)Ljava/lang/String;"⟩ : MethodName) (head1 (Jvm.Cond.code (⟨"com/example/ensyn/ensyn/region/NetClassNamedPinLaw", "make", "(ICCCCCC)Ljava/lang/String;"⟩ : MethodName) method_4_code 7 (some (.object "java/lang/String")) :: ws) ({ frames := 4, cells := 4, slots := 16, locals := 66 } : Room)) (fun a U => a = #[(.int p0), (.int p1), (.int p2), (.int p3), (.int p4), (.int p5), (.int p6)] ∧ Z.Warmed39 U.vm ∧ U.heap = h0) (fun _ _ _ _ _ => True) (fun _ U o U' => ∃ v L, o = .returned v ∧ Q9t Z p0 p1 p2 p3 p4 p5 p6 cz h0 n0 v U'.heap L ∧ FrameEnd U o U' L ({ frames := 4, cells := 4, slots := 16, locals := 66 } : Room).cells ({ frames := 4, cells := 4, slots := 16, locals := 66 } : Room).slots) := by
  refine MetFree.of_bodySF (plainFor_of_name pn_9) hisR ?_
  intro p e s m args below meth c s₁ Bd hml0 hP hK
  obtain ⟨rfl, hZ, hh⟩ := hP
  have hx := Bd.exec
  have hby := Bd.bytes
  have hml : c.maxLocals = 7 := hml0
  have hown : s.vm.findClass "com/example/ensyn/ensyn/region/NetClassNamedPinLaw" = some m.cls := findClass_of_methodNamed Bd.named
  have hnm := (name_of_methodNamed Bd.named Bd.method).1
  have X0 : Stand p l e ({ frames := 4, cells := 4, slots := 16, locals := 66 } : Room) s m #[(.int p0), (.int p1), (.int p2), (.int p3), (.int p4), (.int p5), (.int p6)] below meth c s₁ [] 0 0 := Stand.of_body Bd
  have e0 : s₁.heap = h0 := by rw [← hh, Bd.state]; rfl
  have N0 := Fr.nil n0
  have pre0 : ∀ t, Steps p.tables e below (s₁.setTop (mkF m 0 #[.val (.int p0), .val (.int p1), .val (.int p2), .val (.int p3), .val (.int p4), .val (.int p5), .val (.int p6)] [])) t → Steps p.tables e below (s₁.setTop (entryFrame m #[(.int p0), (.int p1), (.int p2), (.int p3), (.int p4), (.int p5), (.int p6)] 7)) t := fun t k => castTop (ef_9t m p0 p1 p2 p3 p4 p5 p6) k
  show Done p e below _ _
  refine Done.of ?_ pre0
  have hws : ∀ d ∈ StrChars.Road.words, d.before a0 Z = true := fun d hd => hw d ((by decide +kernel : ∀ d ∈ StrChars.Road.words, d ∈ tables_1) d hd)
  have hd1_1 : ¬ (p0 = (0 : Int32)) := by exact hz
  have K2 : ∀ target, Steps p.tables e below (s₁.setTop (mkF m 17 #[.val (.int p0), .val (.int p1), .val (.int p2), .val (.int p3), .val (.int p4), .val (.int p5), .val (.int p6)] [(.int (1 : Int32)), (.int p0)])) target → Steps p.tables e below (s₁.setTop (mkF m 0 #[.val (.int p0), .val (.int p1), .val (.int p2), .val (.int p3), .val (.int p4), .val (.int p5), .val (.int p6)] [])) target := by
    intro target kt
    show Steps p.tables e below (s₁.setTop (mkF m 0 #[.val (.int p0), .val (.int p1), .val (.int p2), .val (.int p3), .val (.int p4), .val (.int p5), .val (.int p6)] [])) _
    refine XS.iloadN X0.here hx rfl (hb hby d9_0) rfl ?_
    show Steps p.tables e below (s₁.setTop (mkF m 1 #[.val (.int p0), .val (.int p1), .val (.int p2), .val (.int p3), .val (.int p4), .val (.int p5), .val (.int p6)] [(.int p0)])) _
    refine XS.ifYes X0.here hx rfl (pc0 := 1) (pc' := 15) rfl (hb hby d9_1) rfl ((if0 _ _).trans (feq hd1_1).2) (by decide) (by decide) ?_
    show Steps p.tables e below (s₁.setTop (mkF m 15 #[.val (.int p0), .val (.int p1), .val (.int p2), .val (.int p3), .val (.int p4), .val (.int p5), .val (.int p6)] [])) _
    refine XS.iloadN X0.here hx rfl (hb hby d9_15) rfl ?_
    show Steps p.tables e below (s₁.setTop (mkF m 16 #[.val (.int p0), .val (.int p1), .val (.int p2), .val (.int p3), .val (.int p4), .val (.int p5), .val (.int p6)] [(.int p0)])) _
    refine XS.iconst X0.here hx rfl (hb hby d9_16) ?_
    exact kt
  refine Done.of ?_ K2
  by_cases hc17_3 : p0 = (1 : Int32)
  · have K : ∀ target, Steps p.tables e below (s₁.setTop (mkF m 20 #[.val (.int p0), .val (.int p1), .val (.int p2), .val (.int p3), .val (.int p4), .val (.int p5), .val (.int p6)] [])) target → Steps p.tables e below (s₁.setTop (mkF m 17 #[.val (.int p0), .val (.int p1), .val (.int p2), .val (.int p3), .val (.int p4), .val (.int p5), .val (.int p6)] [(.int (1 : Int32)), (.int p0)])) target := by
      intro target kt
      refine XS.icmpNo X0.here hx rfl (hb hby d9_17) rfl (teq hc17_3).2 ?_
      exact kt
    refine Done.of ?_ K
    obtain ⟨T4, h4, X4, e4, E4, A4, D4, -, st4⟩ := newO X0 hx hZ hown (hw _ (List.mem_of_getElem? (i := 52) rfl)) (hw _ (List.mem_of_getElem? (i := 2) rfl)) (hw _ (List.mem_of_getElem? (i := 1) rfl)) e0 (g := (mkF m 20 #[.val (.int p0), .val (.int p1), .val (.int p2), .val (.int p3), .val (.int p4), .val (.int p5), .val (.int p6)] [])) rfl (hb hby d9_20) (by decide) (by decide)
    obtain ⟨b4, g4⟩ : ∃ z, z = h0.size := ⟨_, rfl⟩
    rw [← g4] at A4 D4 st4
    have gnb4 : n0 ≤ b4 := Nat.le_trans Z0 (Nat.le_of_eq g4.symm)
    have Z4 : n0 ≤ h4.size := Nat.le_trans Z0 E4.1
    have szb4 : h0.size ≤ b4 := Nat.le_trans (Keep.refl h0 []).1 (Nat.le_of_eq g4.symm)
    have Kp4 := (Keep.refl h0 []).ext E4
    have F4_value : Fld Z h4 b4 "java/lang/String" "value" "[B" .null := D4 (Or.inr (hw _ (List.mem_of_getElem? (i := 4) rfl))) (ty := (.array .byte)) (by decide)
    have F4_coder : Fld Z h4 b4 "java/lang/String" "coder" "B" (.int (0 : Int32)) := D4 (Or.inr (hw _ (List.mem_of_getElem? (i := 5) rfl))) (ty := .byte) (by decide)
    obtain ⟨T5, h5, k5, X5, e5, E5, A5, st5⟩ := newP X4 hx hZ (hw _ (List.mem_of_getElem? (i := 53) rfl)) e4 (g := (mkF m 25 #[.val (.int p0), .val (.int p1), .val (.int p2), .val (.int p3), .val (.int p4), .val (.int p5), .val (.int p6)] [(.int (1 : Int32)), (.ref b4), (.ref b4)])) rfl (hb hby d9_25) rfl (by decide) (cap := 1) (by decide) (by decide) (by decide) (by decide)
    obtain ⟨b5, g5⟩ : ∃ z, z = h4.size := ⟨_, rfl⟩
    rw [← g5] at A5 st5
    have gnb5 : n0 ≤ b5 := Nat.le_trans Z4 (Nat.le_of_eq g5.symm)
    have Z5 : n0 ≤ h5.size := Nat.le_trans Z4 E5.1
    have szb5 : h0.size ≤ b5 := Nat.le_trans Kp4.1 (Nat.le_of_eq g5.symm)
    have Kp5 := Kp4.ext E5
    have ne_5_1 : b4 ≠ b5 := Nat.ne_of_lt (Nat.lt_of_lt_of_le A4.lt (Nat.le_of_eq g5.symm))
    have V5 : Arv Z h5 b5 k5 .char (1 : Int32) [(.int (0 : Int32))] (.int (0 : Int32)) := (Arv.new A5 (by decide)).pad (pad_rep [] (.int (0 : Int32)) 1)
    obtain ⟨cl6, Ar6, qq6, S6, M6, H6, G6⟩ := id V5
    have hin6 : ¬ ((0 : Int32) < 0 ∨ cl6.slots.size ≤ ((0 : Int32)).toNatClampNeg) := inb_of S6 ⟨by decide, by decide⟩
    obtain ⟨T7, h7, X7, e7, W7, st7⟩ := stC X5 hx hZ e5 Ar6 (j := (0 : Int32)) hin6 (g := (mkF m 30 #[.val (.int p0), .val (.int p1), .val (.int p2), .val (.int p3), .val (.int p4), .val (.int p5), .val (.int p6)] [(.int p1), (.int (0 : Int32)), (.ref b5), (.ref b5), (.ref b4), (.ref b4)])) rfl rfl (hb hby d9_30)
    have V7 : Arv Z h7 b5 k5 .char (1 : Int32) [(.int (p1.toUInt32.toUInt16.toUInt32.toInt32))] _ := Arv.set Ar6 qq6 S6 M6 H6 G6 (fits_nar_char _) W7 0 rfl (Nat.le_of_ble_eq_true rfl)
    have N7 := Fr.snoc X7 N0 gnb5
    have Z7 : n0 ≤ h7.size := Nat.le_trans Z5 (Nat.le_of_eq W7.size.symm)
    have Kp7 := Kp5.wr W7 (Or.inr szb5)
    have hp_b4 : ∀ c ∈ ([(p1.toUInt32.toUInt16.toUInt32.toInt32)] : List Int32), ¬ c < 0 ∧ ¬ (255 : Int32) < c := (List.forall_mem_cons.mpr ⟨(own_pc hp1), (fun _ hx => nomatch hx)⟩)
    have cy8 := (A4.ext E5)
    have cy9 := (cy8.wr W7)
    have cy10 := (F4_value.ext E5)
    have cy11 := (cy10.other W7 (Or.inl ne_5_1))
    have cy12 := (F4_coder.ext E5)
    have cy13 := (cy12.other W7 (Or.inl ne_5_1))
    have cy14 := (SCS.ext E4)
    have cy15 := (cy14.ext E5)
    have cy16 := (cy15.wr W7)
    obtain ⟨_, _, ⟨T17, L17, k17, n17⟩, -, X17, ⟨Lc17, hQ17, l17, y17, z17⟩, st17⟩ := X7.specialBack hx (y := (⟨"java/lang/String", "<init>", "([C)V"⟩ : MethodName)) rfl hown (mvT hZ (hw _ (List.mem_of_getElem? (i := 54) rfl))) (mvT hZ (hw _ (List.mem_of_getElem? (i := 55) rfl))) (mvT hZ (hw _ (List.mem_of_getElem? (i := 56) rfl))) (by decide) (StrChars.Road.backV (W := 1) hZ hws (kI := 4) (hw _ (List.mem_of_getElem? (i := 2) rfl)) (cs := ([(p1.toUInt32.toUInt16.toUInt32.toInt32)] : List Int32)) (bs := ([(p1.toUInt32.toUInt16.toUInt32.toInt32)] : List Int32).map (fun c => c.toInt8.toInt32)) (N := (1 : Int32)) (n := 1) (n0 := n0) gnb4 Z7 cy9 cy11 cy13 V7 cy16 hcs rfl rfl (by decide) (by decide) hp_b4 rfl (by decide) (by decide)) (g := (mkF m 31 #[.val (.int p0), .val (.int p1), .val (.int p2), .val (.int p3), .val (.int p4), .val (.int p5), .val (.int p6)] [(.ref b5), (.ref b4), (.ref b4)])) rfl (by rw [hml]; rfl) (Steps.refl _) (a := b4) (argsL := [(.ref b5)]) (rest := [(.ref b4)]) (lenOf pd_3 rfl) rfl (by show 2 * 0 + _ ≤ _; exact Nat.le_of_eq rfl) (hb hby d9_31) (fun _ _ => ⟨rfl, e7, (by decide : 2 + 1 ≤ _), (by decide : 5 + 1 ≤ _)⟩)
    dsimp only [Pt.U, Pt.locs, Pt.cells, Pt.slots] at X17 l17 y17 z17 st17 hQ17
    rw [l17, y17, z17] at X17
    obtain ⟨rfl, N17q, K17q, E17a, C17a, t17, kb17, -, -, -, V17a, A17a⟩ := hQ17
    have N17 := Fr.app N7 N17q
    have Z17 : n0 ≤ T17.heap.size := Nat.le_trans Z7 K17q.1
    have Kp17 := Kp7.trans K17q (fun x hx => Or.inr (by cases List.mem_singleton.mp hx; exact szb4))
    have TS17 : own_Str Z T17.heap b4 ([(p1.toUInt32.toUInt16.toUInt32.toInt32)] : List Int32) := ⟨t17, kb17, _, _, E17a, V17a, C17a, A17a, Or.inl ⟨rfl, rfl, rfl, fun c hc => (hp_b4 c hc).2⟩, own_up hp_b4, Nat.le_of_ble_eq_true rfl⟩
    obtain ⟨fs, hr, hrun, hended, hW, hsame⟩ := X17.leave (v := some (.ref b4)) (fun h => by rw [Bd.returns] at h; cases h)
    refine ⟨_, _, ?_, hrun, hended, _, _, rfl, ?_, ⟨_, rfl⟩, hW, hsame.mono (by decide) (by decide)⟩
    · show Steps p.tables e below (s₁.setTop (mkF m 20 #[.val (.int p0), .val (.int p1), .val (.int p2), .val (.int p3), .val (.int p4), .val (.int p5), .val (.int p6)] [])) _
      refine st4 _ ?_
      show Steps p.tables e below (T4.setTop (mkF m 23 #[.val (.int p0), .val (.int p1), .val (.int p2), .val (.int p3), .val (.int p4), .val (.int p5), .val (.int p6)] [(.ref b4)])) _
      refine XS.dup X4.here hx rfl (hb hby d9_23) rfl rfl ?_
      show Steps p.tables e below (T4.setTop (mkF m 24 #[.val (.int p0), .val (.int p1), .val (.int p2), .val (.int p3), .val (.int p4), .val (.int p5), .val (.int p6)] [(.ref b4), (.ref b4)])) _
      refine XS.iconst X4.here hx rfl (hb hby d9_24) ?_
      show Steps p.tables e below (T4.setTop (mkF m 25 #[.val (.int p0), .val (.int p1), .val (.int p2), .val (.int p3), .val (.int p4), .val (.int p5), .val (.int p6)] [(.int (1 : Int32)), (.ref b4), (.ref b4)])) _
      refine st5 _ ?_
      show Steps p.tables e below (T5.setTop (mkF m 27 #[.val (.int p0), .val (.int p1), .val (.int p2), .val (.int p3), .val (.int p4), .val (.int p5), .val (.int p6)] [(.ref b5), (.ref b4), (.ref b4)])) _
      refine XS.dup X5.here hx rfl (hb hby d9_27) rfl rfl ?_
      show Steps p.tables e below (T5.setTop (mkF m 28 #[.val (.int p0), .val (.int p1), .val (.int p2), .val (.int p3), .val (.int p4), .val (.int p5), .val (.int p6)] [(.ref b5), (.ref b5), (.ref b4), (.ref b4)])) _
      refine XS.iconst X5.here hx rfl (hb hby d9_28) ?_
      show Steps p.tables e below (T5.setTop (mkF m 29 #[.val (.int p0), .val (.int p1), .val (.int p2), .val (.int p3), .val (.int p4), .val (.int p5), .val (.int p6)] [(.int (0 : Int32)), (.ref b5), (.ref b5), (.ref b4), (.ref b4)])) _
      refine XS.iloadN X5.here hx rfl (hb hby d9_29) rfl ?_
      show Steps p.tables e below (T5.setTop (mkF m 30 #[.val (.int p0), .val (.int p1), .val (.int p2), .val (.int p3), .val (.int p4), .val (.int p5), .val (.int p6)] [(.int p1), (.int (0 : Int32)), (.ref b5), (.ref b5), (.ref b4), (.ref b4)])) _
      refine st7 _ ?_
      show Steps p.tables e below (T7.setTop (mkF m 31 #[.val (.int p0), .val (.int p1), .val (.int p2), .val (.int p3), .val (.int p4), .val (.int p5), .val (.int p6)] [(.ref b5), (.ref b4), (.ref b4)])) _
      refine st17.trans ?_
      show Steps p.tables e below (T17.setTop (mkF m 34 #[.val (.int p0), .val (.int p1), .val (.int p2), .val (.int p3), .val (.int p4), .val (.int p5), .val (.int p6)] [(.ref b4)])) _
      jvm_step X17.here [X17.here.top, hx, (hb hby d9_34), X17.method', Bd.returns, Value.isRef, FieldType.isReference]
      first | (intro acts; rw [hr _ acts rfl rfl rfl]) | rw [hr _ _ rfl rfl rfl]
      exact Steps.refl _
    · show Q9t Z p0 p1 p2 p3 p4 p5 p6 cz h0 n0 _ T17.heap _
      exact ⟨b4, _, rfl, N17, Kp17, TS17, hp_b4⟩
  · have K : ∀ target, Steps p.tables e below (s₁.setTop (mkF m 35 #[.val (.int p0), .val (.int p1), .val (.int p2), .val (.int p3), .val (.int p4), .val (.int p5), .val (.int p6)] [])) target → Steps p.tables e below (s₁.setTop (mkF m 17 #[.val (.int p0), .val (.int p1), .val (.int p2), .val (.int p3), .val (.int p4), .val (.int p5), .val (.int p6)] [(.int (1 : Int32)), (.int p0)])) target := by
      intro target kt
      refine XS.icmpYes X0.here hx rfl (pc0 := 17) (pc' := 35) rfl (hb hby d9_17) rfl (feq hc17_3).2 (by decide) (by decide) ?_
      exact kt
    refine Done.of ?_ K
    have K18 : ∀ target, Steps p.tables e below (s₁.setTop (mkF m 37 #[.val (.int p0), .val (.int p1), .val (.int p2), .val (.int p3), .val (.int p4), .val (.int p5), .val (.int p6)] [(.int (2 : Int32)), (.int p0)])) target → Steps p.tables e below (s₁.setTop (mkF m 35 #[.val (.int p0), .val (.int p1), .val (.int p2), .val (.int p3), .val (.int p4), .val (.int p5), .val (.int p6)] [])) target := by
      intro target kt
      show Steps p.tables e below (s₁.setTop (mkF m 35 #[.val (.int p0), .val (.int p1), .val (.int p2), .val (.int p3), .val (.int p4), .val (.int p5), .val (.int p6)] [])) _
      refine XS.iloadN X0.here hx rfl (hb hby d9_35) rfl ?_
      show Steps p.tables e below (s₁.setTop (mkF m 36 #[.val (.int p0), .val (.int p1), .val (.int p2), .val (.int p3), .val (.int p4), .val (.int p5), .val (.int p6)] [(.int p0)])) _
      refine XS.iconst X0.here hx rfl (hb hby d9_36) ?_
      exact kt
    refine Done.of ?_ K18
    by_cases hc37_19 : p0 = (2 : Int32)
    · have K : ∀ target, Steps p.tables e below (s₁.setTop (mkF m 40 #[.val (.int p0), .val (.int p1), .val (.int p2), .val (.int p3), .val (.int p4), .val (.int p5), .val (.int p6)] [])) target → Steps p.tables e below (s₁.setTop (mkF m 37 #[.val (.int p0), .val (.int p1), .val (.int p2), .val (.int p3), .val (.int p4), .val (.int p5), .val (.int p6)] [(.int (2 : Int32)), (.int p0)])) target := by
        intro target kt
        refine XS.icmpNo X0.here hx rfl (hb hby d9_37) rfl (teq hc37_19).2 ?_
        exact kt
      refine Done.of ?_ K
      obtain ⟨T20, h20, X20, e20, E20, A20, D20, -, st20⟩ := newO X0 hx hZ hown (hw _ (List.mem_of_getElem? (i := 52) rfl)) (hw _ (List.mem_of_getElem? (i := 2) rfl)) (hw _ (List.mem_of_getElem? (i := 1) rfl)) e0 (g := (mkF m 40 #[.val (.int p0), .val (.int p1), .val (.int p2), .val (.int p3), .val (.int p4), .val (.int p5), .val (.int p6)] [])) rfl (hb hby d9_40) (by decide) (by decide)
      obtain ⟨b20, g20⟩ : ∃ z, z = h0.size := ⟨_, rfl⟩
      rw [← g20] at A20 D20 st20
      have gnb20 : n0 ≤ b20 := Nat.le_trans Z0 (Nat.le_of_eq g20.symm)
      have Z20 : n0 ≤ h20.size := Nat.le_trans Z0 E20.1
      have szb20 : h0.size ≤ b20 := Nat.le_trans (Keep.refl h0 []).1 (Nat.le_of_eq g20.symm)
      have Kp20 := (Keep.refl h0 []).ext E20
      have F20_value : Fld Z h20 b20 "java/lang/String" "value" "[B" .null := D20 (Or.inr (hw _ (List.mem_of_getElem? (i := 4) rfl))) (ty := (.array .byte)) (by decide)
      have F20_coder : Fld Z h20 b20 "java/lang/String" "coder" "B" (.int (0 : Int32)) := D20 (Or.inr (hw _ (List.mem_of_getElem? (i := 5) rfl))) (ty := .byte) (by decide)
      obtain ⟨T21, h21, k21, X21, e21, E21, A21, st21⟩ := newP X20 hx hZ (hw _ (List.mem_of_getElem? (i := 53) rfl)) e20 (g := (mkF m 45 #[.val (.int p0), .val (.int p1), .val (.int p2), .val (.int p3), .val (.int p4), .val (.int p5), .val (.int p6)] [(.int (2 : Int32)), (.ref b20), (.ref b20)])) rfl (hb hby d9_45) rfl (by decide) (cap := 2) (by decide) (by decide) (by decide) (by decide)
      obtain ⟨b21, g21⟩ : ∃ z, z = h20.size := ⟨_, rfl⟩
      rw [← g21] at A21 st21
      have gnb21 : n0 ≤ b21 := Nat.le_trans Z20 (Nat.le_of_eq g21.symm)
      have Z21 : n0 ≤ h21.size := Nat.le_trans Z20 E21.1
      have szb21 : h0.size ≤ b21 := Nat.le_trans Kp20.1 (Nat.le_of_eq g21.symm)
      have Kp21 := Kp20.ext E21
      have ne_21_1 : b20 ≠ b21 := Nat.ne_of_lt (Nat.lt_of_lt_of_le A20.lt (Nat.le_of_eq g21.symm))
      have V21 : Arv Z h21 b21 k21 .char (2 : Int32) [(.int (0 : Int32)), (.int (0 : Int32))] (.int (0 : Int32)) := (Arv.new A21 (by decide)).pad (pad_rep [] (.int (0 : Int32)) 2)
      obtain ⟨cl22, Ar22, qq22, S22, M22, H22, G22⟩ := id V21
      have hin22 : ¬ ((0 : Int32) < 0 ∨ cl22.slots.size ≤ ((0 : Int32)).toNatClampNeg) := inb_of S22 ⟨by decide, by decide⟩
      obtain ⟨T23, h23, X23, e23, W23, st23⟩ := stC X21 hx hZ e21 Ar22 (j := (0 : Int32)) hin22 (g := (mkF m 50 #[.val (.int p0), .val (.int p1), .val (.int p2), .val (.int p3), .val (.int p4), .val (.int p5), .val (.int p6)] [(.int p1), (.int (0 : Int32)), (.ref b21), (.ref b21), (.ref b20), (.ref b20)])) rfl rfl (hb hby d9_50)
      have V23 : Arv Z h23 b21 k21 .char (2 : Int32) [(.int (p1.toUInt32.toUInt16.toUInt32.toInt32)), (.int (0 : Int32))] _ := Arv.set Ar22 qq22 S22 M22 H22 G22 (fits_nar_char _) W23 0 rfl (Nat.le_of_ble_eq_true rfl)
      have N23 := Fr.snoc X23 N0 gnb21
      have Z23 : n0 ≤ h23.size := Nat.le_trans Z21 (Nat.le_of_eq W23.size.symm)
      have Kp23 := Kp21.wr W23 (Or.inr szb21)
      obtain ⟨cl24, Ar24, qq24, S24, M24, H24, G24⟩ := id V23
      have hin24 : ¬ ((1 : Int32) < 0 ∨ cl24.slots.size ≤ ((1 : Int32)).toNatClampNeg) := inb_of S24 ⟨by decide, by decide⟩
      obtain ⟨T25, h25, X25, e25, W25, st25⟩ := stC X23 hx hZ e23 Ar24 (j := (1 : Int32)) hin24 (g := (mkF m 54 #[.val (.int p0), .val (.int p1), .val (.int p2), .val (.int p3), .val (.int p4), .val (.int p5), .val (.int p6)] [(.int p2), (.int (1 : Int32)), (.ref b21), (.ref b21), (.ref b20), (.ref b20)])) rfl rfl (hb hby d9_54)
      have V25 : Arv Z h25 b21 k21 .char (2 : Int32) [(.int (p1.toUInt32.toUInt16.toUInt32.toInt32)), (.int (p2.toUInt32.toUInt16.toUInt32.toInt32))] _ := Arv.set Ar24 qq24 S24 M24 H24 G24 (fits_nar_char _) W25 1 rfl (Nat.le_of_ble_eq_true rfl)
      have N25 := Fr.snoc X25 N23 gnb21
      have Z25 : n0 ≤ h25.size := Nat.le_trans Z23 (Nat.le_of_eq W25.size.symm)
      have Kp25 := Kp23.wr W25 (Or.inr szb21)
      have hp_b20 : ∀ c ∈ ([(p1.toUInt32.toUInt16.toUInt32.toInt32), (p2.toUInt32.toUInt16.toUInt32.toInt32)] : List Int32), ¬ c < 0 ∧ ¬ (255 : Int32) < c := (List.forall_mem_cons.mpr ⟨(own_pc hp1), (List.forall_mem_cons.mpr ⟨(own_pc hp2), (fun _ hx => nomatch hx)⟩)⟩)
      have cy26 := (A20.ext E21)
      have cy27 := (cy26.wr W23)
      have cy28 := (cy27.wr W25)
      have cy29 := (F20_value.ext E21)
      have cy30 := (cy29.other W23 (Or.inl ne_21_1))
      have cy31 := (cy30.other W25 (Or.inl ne_21_1))
      have cy32 := (F20_coder.ext E21)
      have cy33 := (cy32.other W23 (Or.inl ne_21_1))
      have cy34 := (cy33.other W25 (Or.inl ne_21_1))
      have cy35 := (SCS.ext E20)
      have cy36 := (cy35.ext E21)
      have cy37 := (cy36.wr W23)
      have cy38 := (cy37.wr W25)
      obtain ⟨_, _, ⟨T39, L39, k39, n39⟩, -, X39, ⟨Lc39, hQ39, l39, y39, z39⟩, st39⟩ := X25.specialBack hx (y := (⟨"java/lang/String", "<init>", "([C)V"⟩ : MethodName)) rfl hown (mvT hZ (hw _ (List.mem_of_getElem? (i := 54) rfl))) (mvT hZ (hw _ (List.mem_of_getElem? (i := 55) rfl))) (mvT hZ (hw _ (List.mem_of_getElem? (i := 56) rfl))) (by decide) (StrChars.Road.backV (W := 1) hZ hws (kI := 4) (hw _ (List.mem_of_getElem? (i := 2) rfl)) (cs := ([(p1.toUInt32.toUInt16.toUInt32.toInt32), (p2.toUInt32.toUInt16.toUInt32.toInt32)] : List Int32)) (bs := ([(p1.toUInt32.toUInt16.toUInt32.toInt32), (p2.toUInt32.toUInt16.toUInt32.toInt32)] : List Int32).map (fun c => c.toInt8.toInt32)) (N := (2 : Int32)) (n := 2) (n0 := n0) gnb20 Z25 cy28 cy31 cy34 V25 cy38 hcs rfl rfl (by decide) (by decide) hp_b20 rfl (by decide) (by decide)) (g := (mkF m 55 #[.val (.int p0), .val (.int p1), .val (.int p2), .val (.int p3), .val (.int p4), .val (.int p5), .val (.int p6)] [(.ref b21), (.ref b20), (.ref b20)])) rfl (by rw [hml]; rfl) (Steps.refl _) (a := b20) (argsL := [(.ref b21)]) (rest := [(.ref b20)]) (lenOf pd_3 rfl) rfl (by show 2 * 0 + _ ≤ _; exact Nat.le_of_eq rfl) (hb hby d9_55) (fun _ _ => ⟨rfl, e25, (by decide : 2 + 1 ≤ _), (by decide : 6 + 2 ≤ _)⟩)
      dsimp only [Pt.U, Pt.locs, Pt.cells, Pt.slots] at X39 l39 y39 z39 st39 hQ39
      rw [l39, y39, z39] at X39
      obtain ⟨rfl, N39q, K39q, E39a, C39a, t39, kb39, -, -, -, V39a, A39a⟩ := hQ39
      have N39 := Fr.app N25 N39q
      have Z39 : n0 ≤ T39.heap.size := Nat.le_trans Z25 K39q.1
      have Kp39 := Kp25.trans K39q (fun x hx => Or.inr (by cases List.mem_singleton.mp hx; exact szb20))
      have TS39 : own_Str Z T39.heap b20 ([(p1.toUInt32.toUInt16.toUInt32.toInt32), (p2.toUInt32.toUInt16.toUInt32.toInt32)] : List Int32) := ⟨t39, kb39, _, _, E39a, V39a, C39a, A39a, Or.inl ⟨rfl, rfl, rfl, fun c hc => (hp_b20 c hc).2⟩, own_up hp_b20, Nat.le_of_ble_eq_true rfl⟩
      obtain ⟨fs, hr, hrun, hended, hW, hsame⟩ := X39.leave (v := some (.ref b20)) (fun h => by rw [Bd.returns] at h; cases h)
      refine ⟨_, _, ?_, hrun, hended, _, _, rfl, ?_, ⟨_, rfl⟩, hW, hsame.mono (by decide) (by decide)⟩
      · show Steps p.tables e below (s₁.setTop (mkF m 40 #[.val (.int p0), .val (.int p1), .val (.int p2), .val (.int p3), .val (.int p4), .val (.int p5), .val (.int p6)] [])) _
        refine st20 _ ?_
        show Steps p.tables e below (T20.setTop (mkF m 43 #[.val (.int p0), .val (.int p1), .val (.int p2), .val (.int p3), .val (.int p4), .val (.int p5), .val (.int p6)] [(.ref b20)])) _
        refine XS.dup X20.here hx rfl (hb hby d9_43) rfl rfl ?_
        show Steps p.tables e below (T20.setTop (mkF m 44 #[.val (.int p0), .val (.int p1), .val (.int p2), .val (.int p3), .val (.int p4), .val (.int p5), .val (.int p6)] [(.ref b20), (.ref b20)])) _
        refine XS.iconst X20.here hx rfl (hb hby d9_44) ?_
        show Steps p.tables e below (T20.setTop (mkF m 45 #[.val (.int p0), .val (.int p1), .val (.int p2), .val (.int p3), .val (.int p4), .val (.int p5), .val (.int p6)] [(.int (2 : Int32)), (.ref b20), (.ref b20)])) _
        refine st21 _ ?_
        show Steps p.tables e below (T21.setTop (mkF m 47 #[.val (.int p0), .val (.int p1), .val (.int p2), .val (.int p3), .val (.int p4), .val (.int p5), .val (.int p6)] [(.ref b21), (.ref b20), (.ref b20)])) _
        refine XS.dup X21.here hx rfl (hb hby d9_47) rfl rfl ?_
        show Steps p.tables e below (T21.setTop (mkF m 48 #[.val (.int p0), .val (.int p1), .val (.int p2), .val (.int p3), .val (.int p4), .val (.int p5), .val (.int p6)] [(.ref b21), (.ref b21), (.ref b20), (.ref b20)])) _
        refine XS.iconst X21.here hx rfl (hb hby d9_48) ?_
        show Steps p.tables e below (T21.setTop (mkF m 49 #[.val (.int p0), .val (.int p1), .val (.int p2), .val (.int p3), .val (.int p4), .val (.int p5), .val (.int p6)] [(.int (0 : Int32)), (.ref b21), (.ref b21), (.ref b20), (.ref b20)])) _
        refine XS.iloadN X21.here hx rfl (hb hby d9_49) rfl ?_
        show Steps p.tables e below (T21.setTop (mkF m 50 #[.val (.int p0), .val (.int p1), .val (.int p2), .val (.int p3), .val (.int p4), .val (.int p5), .val (.int p6)] [(.int p1), (.int (0 : Int32)), (.ref b21), (.ref b21), (.ref b20), (.ref b20)])) _
        refine st23 _ ?_
        show Steps p.tables e below (T23.setTop (mkF m 51 #[.val (.int p0), .val (.int p1), .val (.int p2), .val (.int p3), .val (.int p4), .val (.int p5), .val (.int p6)] [(.ref b21), (.ref b20), (.ref b20)])) _
        refine XS.dup X23.here hx rfl (hb hby d9_51) rfl rfl ?_
        show Steps p.tables e below (T23.setTop (mkF m 52 #[.val (.int p0), .val (.int p1), .val (.int p2), .val (.int p3), .val (.int p4), .val (.int p5), .val (.int p6)] [(.ref b21), (.ref b21), (.ref b20), (.ref b20)])) _
        refine XS.iconst X23.here hx rfl (hb hby d9_52) ?_
        show Steps p.tables e below (T23.setTop (mkF m 53 #[.val (.int p0), .val (.int p1), .val (.int p2), .val (.int p3), .val (.int p4), .val (.int p5), .val (.int p6)] [(.int (1 : Int32)), (.ref b21), (.ref b21), (.ref b20), (.ref b20)])) _
        refine XS.iloadN X23.here hx rfl (hb hby d9_53) rfl ?_
        show Steps p.tables e below (T23.setTop (mkF m 54 #[.val (.int p0), .val (.int p1), .val (.int p2), .val (.int p3), .val (.int p4), .val (.int p5), .val (.int p6)] [(.int p2), (.int (1 : Int32)), (.ref b21), (.ref b21), (.ref b20), (.ref b20)])) _
        refine st25 _ ?_
        show Steps p.tables e below (T25.setTop (mkF m 55 #[.val (.int p0), .val (.int p1), .val (.int p2), .val (.int p3), .val (.int p4), .val (.int p5), .val (.int p6)] [(.ref b21), (.ref b20), (.ref b20)])) _
        refine st39.trans ?_
        show Steps p.tables e below (T39.setTop (mkF m 58 #[.val (.int p0), .val (.int p1), .val (.int p2), .val (.int p3), .val (.int p4), .val (.int p5), .val (.int p6)] [(.ref b20)])) _
        jvm_step X39.here [X39.here.top, hx, (hb hby d9_58), X39.method', Bd.returns, Value.isRef, FieldType.isReference]
        first | (intro acts; rw [hr _ acts rfl rfl rfl]) | rw [hr _ _ rfl rfl rfl]
        exact Steps.refl _
      · show Q9t Z p0 p1 p2 p3 p4 p5 p6 cz h0 n0 _ T39.heap _
        exact ⟨b20, _, rfl, N39, Kp39, TS39, hp_b20⟩
    · have K : ∀ target, Steps p.tables e below (s₁.setTop (mkF m 59 #[.val (.int p0), .val (.int p1), .val (.int p2), .val (.int p3), .val (.int p4), .val (.int p5), .val (.int p6)] [])) target → Steps p.tables e below (s₁.setTop (mkF m 37 #[.val (.int p0), .val (.int p1), .val (.int p2), .val (.int p3), .val (.int p4), .val (.int p5), .val (.int p6)] [(.int (2 : Int32)), (.int p0)])) target := by
        intro target kt
        refine XS.icmpYes X0.here hx rfl (pc0 := 37) (pc' := 59) rfl (hb hby d9_37) rfl (feq hc37_19).2 (by decide) (by decide) ?_
        exact kt
      refine Done.of ?_ K
      have K40 : ∀ target, Steps p.tables e below (s₁.setTop (mkF m 61 #[.val (.int p0), .val (.int p1), .val (.int p2), .val (.int p3), .val (.int p4), .val (.int p5), .val (.int p6)] [(.int (3 : Int32)), (.int p0)])) target → Steps p.tables e below (s₁.setTop (mkF m 59 #[.val (.int p0), .val (.int p1), .val (.int p2), .val (.int p3), .val (.int p4), .val (.int p5), .val (.int p6)] [])) target := by
        intro target kt
        show Steps p.tables e below (s₁.setTop (mkF m 59 #[.val (.int p0), .val (.int p1), .val (.int p2), .val (.int p3), .val (.int p4), .val (.int p5), .val (.int p6)] [])) _
        refine XS.iloadN X0.here hx rfl (hb hby d9_59) rfl ?_
        show Steps p.tables e below (s₁.setTop (mkF m 60 #[.val (.int p0), .val (.int p1), .val (.int p2), .val (.int p3), .val (.int p4), .val (.int p5), .val (.int p6)] [(.int p0)])) _
        refine XS.iconst X0.here hx rfl (hb hby d9_60) ?_
        exact kt
      refine Done.of ?_ K40
      by_cases hc61_41 : p0 = (3 : Int32)
      · have K : ∀ target, Steps p.tables e below (s₁.setTop (mkF m 64 #[.val (.int p0), .val (.int p1), .val (.int p2), .val (.int p3), .val (.int p4), .val (.int p5), .val (.int p6)] [])) target → Steps p.tables e below (s₁.setTop (mkF m 61 #[.val (.int p0), .val (.int p1), .val (.int p2), .val (.int p3), .val (.int p4), .val (.int p5), .val (.int p6)] [(.int (3 : Int32)), (.int p0)])) target := by
          intro target kt
          refine XS.icmpNo X0.here hx rfl (hb hby d9_61) rfl (teq hc61_41).2 ?_
          exact kt
        refine Done.of ?_ K
        obtain ⟨T42, h42, X42, e42, E42, A42, D42, -, st42⟩ := newO X0 hx hZ hown (hw _ (List.mem_of_getElem? (i := 52) rfl)) (hw _ (List.mem_of_getElem? (i := 2) rfl)) (hw _ (List.mem_of_getElem? (i := 1) rfl)) e0 (g := (mkF m 64 #[.val (.int p0), .val (.int p1), .val (.int p2), .val (.int p3), .val (.int p4), .val (.int p5), .val (.int p6)] [])) rfl (hb hby d9_64) (by decide) (by decide)
        obtain ⟨b42, g42⟩ : ∃ z, z = h0.size := ⟨_, rfl⟩
        rw [← g42] at A42 D42 st42
        have gnb42 : n0 ≤ b42 := Nat.le_trans Z0 (Nat.le_of_eq g42.symm)
        have Z42 : n0 ≤ h42.size := Nat.le_trans Z0 E42.1
        have szb42 : h0.size ≤ b42 := Nat.le_trans (Keep.refl h0 []).1 (Nat.le_of_eq g42.symm)
        have Kp42 := (Keep.refl h0 []).ext E42
        have F42_value : Fld Z h42 b42 "java/lang/String" "value" "[B" .null := D42 (Or.inr (hw _ (List.mem_of_getElem? (i := 4) rfl))) (ty := (.array .byte)) (by decide)
        have F42_coder : Fld Z h42 b42 "java/lang/String" "coder" "B" (.int (0 : Int32)) := D42 (Or.inr (hw _ (List.mem_of_getElem? (i := 5) rfl))) (ty := .byte) (by decide)
        obtain ⟨T43, h43, k43, X43, e43, E43, A43, st43⟩ := newP X42 hx hZ (hw _ (List.mem_of_getElem? (i := 53) rfl)) e42 (g := (mkF m 69 #[.val (.int p0), .val (.int p1), .val (.int p2), .val (.int p3), .val (.int p4), .val (.int p5), .val (.int p6)] [(.int (3 : Int32)), (.ref b42), (.ref b42)])) rfl (hb hby d9_69) rfl (by decide) (cap := 3) (by decide) (by decide) (by decide) (by decide)
        obtain ⟨b43, g43⟩ : ∃ z, z = h42.size := ⟨_, rfl⟩
        rw [← g43] at A43 st43
        have gnb43 : n0 ≤ b43 := Nat.le_trans Z42 (Nat.le_of_eq g43.symm)
        have Z43 : n0 ≤ h43.size := Nat.le_trans Z42 E43.1
        have szb43 : h0.size ≤ b43 := Nat.le_trans Kp42.1 (Nat.le_of_eq g43.symm)
        have Kp43 := Kp42.ext E43
        have ne_43_1 : b42 ≠ b43 := Nat.ne_of_lt (Nat.lt_of_lt_of_le A42.lt (Nat.le_of_eq g43.symm))
        have V43 : Arv Z h43 b43 k43 .char (3 : Int32) [(.int (0 : Int32)), (.int (0 : Int32)), (.int (0 : Int32))] (.int (0 : Int32)) := (Arv.new A43 (by decide)).pad (pad_rep [] (.int (0 : Int32)) 3)
        obtain ⟨cl44, Ar44, qq44, S44, M44, H44, G44⟩ := id V43
        have hin44 : ¬ ((0 : Int32) < 0 ∨ cl44.slots.size ≤ ((0 : Int32)).toNatClampNeg) := inb_of S44 ⟨by decide, by decide⟩
        obtain ⟨T45, h45, X45, e45, W45, st45⟩ := stC X43 hx hZ e43 Ar44 (j := (0 : Int32)) hin44 (g := (mkF m 74 #[.val (.int p0), .val (.int p1), .val (.int p2), .val (.int p3), .val (.int p4), .val (.int p5), .val (.int p6)] [(.int p1), (.int (0 : Int32)), (.ref b43), (.ref b43), (.ref b42), (.ref b42)])) rfl rfl (hb hby d9_74)
        have V45 : Arv Z h45 b43 k43 .char (3 : Int32) [(.int (p1.toUInt32.toUInt16.toUInt32.toInt32)), (.int (0 : Int32)), (.int (0 : Int32))] _ := Arv.set Ar44 qq44 S44 M44 H44 G44 (fits_nar_char _) W45 0 rfl (Nat.le_of_ble_eq_true rfl)
        have N45 := Fr.snoc X45 N0 gnb43
        have Z45 : n0 ≤ h45.size := Nat.le_trans Z43 (Nat.le_of_eq W45.size.symm)
        have Kp45 := Kp43.wr W45 (Or.inr szb43)
        obtain ⟨cl46, Ar46, qq46, S46, M46, H46, G46⟩ := id V45
        have hin46 : ¬ ((1 : Int32) < 0 ∨ cl46.slots.size ≤ ((1 : Int32)).toNatClampNeg) := inb_of S46 ⟨by decide, by decide⟩
        obtain ⟨T47, h47, X47, e47, W47, st47⟩ := stC X45 hx hZ e45 Ar46 (j := (1 : Int32)) hin46 (g := (mkF m 78 #[.val (.int p0), .val (.int p1), .val (.int p2), .val (.int p3), .val (.int p4), .val (.int p5), .val (.int p6)] [(.int p2), (.int (1 : Int32)), (.ref b43), (.ref b43), (.ref b42), (.ref b42)])) rfl rfl (hb hby d9_78)
        have V47 : Arv Z h47 b43 k43 .char (3 : Int32) [(.int (p1.toUInt32.toUInt16.toUInt32.toInt32)), (.int (p2.toUInt32.toUInt16.toUInt32.toInt32)), (.int (0 : Int32))] _ := Arv.set Ar46 qq46 S46 M46 H46 G46 (fits_nar_char _) W47 1 rfl (Nat.le_of_ble_eq_true rfl)
        have N47 := Fr.snoc X47 N45 gnb43
        have Z47 : n0 ≤ h47.size := Nat.le_trans Z45 (Nat.le_of_eq W47.size.symm)
        have Kp47 := Kp45.wr W47 (Or.inr szb43)
        obtain ⟨cl48, Ar48, qq48, S48, M48, H48, G48⟩ := id V47
        have hin48 : ¬ ((2 : Int32) < 0 ∨ cl48.slots.size ≤ ((2 : Int32)).toNatClampNeg) := inb_of S48 ⟨by decide, by decide⟩
        obtain ⟨T49, h49, X49, e49, W49, st49⟩ := stC X47 hx hZ e47 Ar48 (j := (2 : Int32)) hin48 (g := (mkF m 82 #[.val (.int p0), .val (.int p1), .val (.int p2), .val (.int p3), .val (.int p4), .val (.int p5), .val (.int p6)] [(.int p3), (.int (2 : Int32)), (.ref b43), (.ref b43), (.ref b42), (.ref b42)])) rfl rfl (hb hby d9_82)
        have V49 : Arv Z h49 b43 k43 .char (3 : Int32) [(.int (p1.toUInt32.toUInt16.toUInt32.toInt32)), (.int (p2.toUInt32.toUInt16.toUInt32.toInt32)), (.int (p3.toUInt32.toUInt16.toUInt32.toInt32))] _ := Arv.set Ar48 qq48 S48 M48 H48 G48 (fits_nar_char _) W49 2 rfl (Nat.le_of_ble_eq_true rfl)
        have N49 := Fr.snoc X49 N47 gnb43
        have Z49 : n0 ≤ h49.size := Nat.le_trans Z47 (Nat.le_of_eq W49.size.symm)
        have Kp49 := Kp47.wr W49 (Or.inr szb43)
        have hp_b42 : ∀ c ∈ ([(p1.toUInt32.toUInt16.toUInt32.toInt32), (p2.toUInt32.toUInt16.toUInt32.toInt32), (p3.toUInt32.toUInt16.toUInt32.toInt32)] : List Int32), ¬ c < 0 ∧ ¬ (255 : Int32) < c := (List.forall_mem_cons.mpr ⟨(own_pc hp1), (List.forall_mem_cons.mpr ⟨(own_pc hp2), (List.forall_mem_cons.mpr ⟨(own_pc hp3), (fun _ hx => nomatch hx)⟩)⟩)⟩)
        have cy50 := (A42.ext E43)
        have cy51 := (cy50.wr W45)
        have cy52 := (cy51.wr W47)
        have cy53 := (cy52.wr W49)
        have cy54 := (F42_value.ext E43)
        have cy55 := (cy54.other W45 (Or.inl ne_43_1))
        have cy56 := (cy55.other W47 (Or.inl ne_43_1))
        have cy57 := (cy56.other W49 (Or.inl ne_43_1))
        have cy58 := (F42_coder.ext E43)
        have cy59 := (cy58.other W45 (Or.inl ne_43_1))
        have cy60 := (cy59.other W47 (Or.inl ne_43_1))
        have cy61 := (cy60.other W49 (Or.inl ne_43_1))
        have cy62 := (SCS.ext E42)
        have cy63 := (cy62.ext E43)
        have cy64 := (cy63.wr W45)
        have cy65 := (cy64.wr W47)
        have cy66 := (cy65.wr W49)
        obtain ⟨_, _, ⟨T67, L67, k67, n67⟩, -, X67, ⟨Lc67, hQ67, l67, y67, z67⟩, st67⟩ := X49.specialBack hx (y := (⟨"java/lang/String", "<init>", "([C)V"⟩ : MethodName)) rfl hown (mvT hZ (hw _ (List.mem_of_getElem? (i := 54) rfl))) (mvT hZ (hw _ (List.mem_of_getElem? (i := 55) rfl))) (mvT hZ (hw _ (List.mem_of_getElem? (i := 56) rfl))) (by decide) (StrChars.Road.backV (W := 1) hZ hws (kI := 4) (hw _ (List.mem_of_getElem? (i := 2) rfl)) (cs := ([(p1.toUInt32.toUInt16.toUInt32.toInt32), (p2.toUInt32.toUInt16.toUInt32.toInt32), (p3.toUInt32.toUInt16.toUInt32.toInt32)] : List Int32)) (bs := ([(p1.toUInt32.toUInt16.toUInt32.toInt32), (p2.toUInt32.toUInt16.toUInt32.toInt32), (p3.toUInt32.toUInt16.toUInt32.toInt32)] : List Int32).map (fun c => c.toInt8.toInt32)) (N := (3 : Int32)) (n := 3) (n0 := n0) gnb42 Z49 cy53 cy57 cy61 V49 cy66 hcs rfl rfl (by decide) (by decide) hp_b42 rfl (by decide) (by decide)) (g := (mkF m 83 #[.val (.int p0), .val (.int p1), .val (.int p2), .val (.int p3), .val (.int p4), .val (.int p5), .val (.int p6)] [(.ref b43), (.ref b42), (.ref b42)])) rfl (by rw [hml]; rfl) (Steps.refl _) (a := b42) (argsL := [(.ref b43)]) (rest := [(.ref b42)]) (lenOf pd_3 rfl) rfl (by show 2 * 0 + _ ≤ _; exact Nat.le_of_eq rfl) (hb hby d9_83) (fun _ _ => ⟨rfl, e49, (by decide : 2 + 1 ≤ _), (by decide : 7 + 3 ≤ _)⟩)
        dsimp only [Pt.U, Pt.locs, Pt.cells, Pt.slots] at X67 l67 y67 z67 st67 hQ67
        rw [l67, y67, z67] at X67
        obtain ⟨rfl, N67q, K67q, E67a, C67a, t67, kb67, -, -, -, V67a, A67a⟩ := hQ67
        have N67 := Fr.app N49 N67q
        have Z67 : n0 ≤ T67.heap.size := Nat.le_trans Z49 K67q.1
        have Kp67 := Kp49.trans K67q (fun x hx => Or.inr (by cases List.mem_singleton.mp hx; exact szb42))
        have TS67 : own_Str Z T67.heap b42 ([(p1.toUInt32.toUInt16.toUInt32.toInt32), (p2.toUInt32.toUInt16.toUInt32.toInt32), (p3.toUInt32.toUInt16.toUInt32.toInt32)] : List Int32) := ⟨t67, kb67, _, _, E67a, V67a, C67a, A67a, Or.inl ⟨rfl, rfl, rfl, fun c hc => (hp_b42 c hc).2⟩, own_up hp_b42, Nat.le_of_ble_eq_true rfl⟩
        obtain ⟨fs, hr, hrun, hended, hW, hsame⟩ := X67.leave (v := some (.ref b42)) (fun h => by rw [Bd.returns] at h; cases h)
        refine ⟨_, _, ?_, hrun, hended, _, _, rfl, ?_, ⟨_, rfl⟩, hW, hsame.mono (by decide) (by decide)⟩
        · show Steps p.tables e below (s₁.setTop (mkF m 64 #[.val (.int p0), .val (.int p1), .val (.int p2), .val (.int p3), .val (.int p4), .val (.int p5), .val (.int p6)] [])) _
          refine st42 _ ?_
          show Steps p.tables e below (T42.setTop (mkF m 67 #[.val (.int p0), .val (.int p1), .val (.int p2), .val (.int p3), .val (.int p4), .val (.int p5), .val (.int p6)] [(.ref b42)])) _
          refine XS.dup X42.here hx rfl (hb hby d9_67) rfl rfl ?_
          show Steps p.tables e below (T42.setTop (mkF m 68 #[.val (.int p0), .val (.int p1), .val (.int p2), .val (.int p3), .val (.int p4), .val (.int p5), .val (.int p6)] [(.ref b42), (.ref b42)])) _
          refine XS.iconst X42.here hx rfl (hb hby d9_68) ?_
          show Steps p.tables e below (T42.setTop (mkF m 69 #[.val (.int p0), .val (.int p1), .val (.int p2), .val (.int p3), .val (.int p4), .val (.int p5), .val (.int p6)] [(.int (3 : Int32)), (.ref b42), (.ref b42)])) _
          refine st43 _ ?_
          show Steps p.tables e below (T43.setTop (mkF m 71 #[.val (.int p0), .val (.int p1), .val (.int p2), .val (.int p3), .val (.int p4), .val (.int p5), .val (.int p6)] [(.ref b43), (.ref b42), (.ref b42)])) _
          refine XS.dup X43.here hx rfl (hb hby d9_71) rfl rfl ?_
          show Steps p.tables e below (T43.setTop (mkF m 72 #[.val (.int p0), .val (.int p1), .val (.int p2), .val (.int p3), .val (.int p4), .val (.int p5), .val (.int p6)] [(.ref b43), (.ref b43), (.ref b42), (.ref b42)])) _
          refine XS.iconst X43.here hx rfl (hb hby d9_72) ?_
          show Steps p.tables e below (T43.setTop (mkF m 73 #[.val (.int p0), .val (.int p1), .val (.int p2), .val (.int p3), .val (.int p4), .val (.int p5), .val (.int p6)] [(.int (0 : Int32)), (.ref b43), (.ref b43), (.ref b42), (.ref b42)])) _
          refine XS.iloadN X43.here hx rfl (hb hby d9_73) rfl ?_
          show Steps p.tables e below (T43.setTop (mkF m 74 #[.val (.int p0), .val (.int p1), .val (.int p2), .val (.int p3), .val (.int p4), .val (.int p5), .val (.int p6)] [(.int p1), (.int (0 : Int32)), (.ref b43), (.ref b43), (.ref b42), (.ref b42)])) _
          refine st45 _ ?_
          show Steps p.tables e below (T45.setTop (mkF m 75 #[.val (.int p0), .val (.int p1), .val (.int p2), .val (.int p3), .val (.int p4), .val (.int p5), .val (.int p6)] [(.ref b43), (.ref b42), (.ref b42)])) _
          refine XS.dup X45.here hx rfl (hb hby d9_75) rfl rfl ?_
          show Steps p.tables e below (T45.setTop (mkF m 76 #[.val (.int p0), .val (.int p1), .val (.int p2), .val (.int p3), .val (.int p4), .val (.int p5), .val (.int p6)] [(.ref b43), (.ref b43), (.ref b42), (.ref b42)])) _
          refine XS.iconst X45.here hx rfl (hb hby d9_76) ?_
          show Steps p.tables e below (T45.setTop (mkF m 77 #[.val (.int p0), .val (.int p1), .val (.int p2), .val (.int p3), .val (.int p4), .val (.int p5), .val (.int p6)] [(.int (1 : Int32)), (.ref b43), (.ref b43), (.ref b42), (.ref b42)])) _
          refine XS.iloadN X45.here hx rfl (hb hby d9_77) rfl ?_
          show Steps p.tables e below (T45.setTop (mkF m 78 #[.val (.int p0), .val (.int p1), .val (.int p2), .val (.int p3), .val (.int p4), .val (.int p5), .val (.int p6)] [(.int p2), (.int (1 : Int32)), (.ref b43), (.ref b43), (.ref b42), (.ref b42)])) _
          refine st47 _ ?_
          show Steps p.tables e below (T47.setTop (mkF m 79 #[.val (.int p0), .val (.int p1), .val (.int p2), .val (.int p3), .val (.int p4), .val (.int p5), .val (.int p6)] [(.ref b43), (.ref b42), (.ref b42)])) _
          refine XS.dup X47.here hx rfl (hb hby d9_79) rfl rfl ?_
          show Steps p.tables e below (T47.setTop (mkF m 80 #[.val (.int p0), .val (.int p1), .val (.int p2), .val (.int p3), .val (.int p4), .val (.int p5), .val (.int p6)] [(.ref b43), (.ref b43), (.ref b42), (.ref b42)])) _
          refine XS.iconst X47.here hx rfl (hb hby d9_80) ?_
          show Steps p.tables e below (T47.setTop (mkF m 81 #[.val (.int p0), .val (.int p1), .val (.int p2), .val (.int p3), .val (.int p4), .val (.int p5), .val (.int p6)] [(.int (2 : Int32)), (.ref b43), (.ref b43), (.ref b42), (.ref b42)])) _
          refine XS.iloadN X47.here hx rfl (hb hby d9_81) rfl ?_
          show Steps p.tables e below (T47.setTop (mkF m 82 #[.val (.int p0), .val (.int p1), .val (.int p2), .val (.int p3), .val (.int p4), .val (.int p5), .val (.int p6)] [(.int p3), (.int (2 : Int32)), (.ref b43), (.ref b43), (.ref b42), (.ref b42)])) _
          refine st49 _ ?_
          show Steps p.tables e below (T49.setTop (mkF m 83 #[.val (.int p0), .val (.int p1), .val (.int p2), .val (.int p3), .val (.int p4), .val (.int p5), .val (.int p6)] [(.ref b43), (.ref b42), (.ref b42)])) _
          refine st67.trans ?_
          show Steps p.tables e below (T67.setTop (mkF m 86 #[.val (.int p0), .val (.int p1), .val (.int p2), .val (.int p3), .val (.int p4), .val (.int p5), .val (.int p6)] [(.ref b42)])) _
          jvm_step X67.here [X67.here.top, hx, (hb hby d9_86), X67.method', Bd.returns, Value.isRef, FieldType.isReference]
          first | (intro acts; rw [hr _ acts rfl rfl rfl]) | rw [hr _ _ rfl rfl rfl]
          exact Steps.refl _
        · show Q9t Z p0 p1 p2 p3 p4 p5 p6 cz h0 n0 _ T67.heap _
          exact ⟨b42, _, rfl, N67, Kp67, TS67, hp_b42⟩
      · have K : ∀ target, Steps p.tables e below (s₁.setTop (mkF m 87 #[.val (.int p0), .val (.int p1), .val (.int p2), .val (.int p3), .val (.int p4), .val (.int p5), .val (.int p6)] [])) target → Steps p.tables e below (s₁.setTop (mkF m 61 #[.val (.int p0), .val (.int p1), .val (.int p2), .val (.int p3), .val (.int p4), .val (.int p5), .val (.int p6)] [(.int (3 : Int32)), (.int p0)])) target := by
          intro target kt
          refine XS.icmpYes X0.here hx rfl (pc0 := 61) (pc' := 87) rfl (hb hby d9_61) rfl (feq hc61_41).2 (by decide) (by decide) ?_
          exact kt
        refine Done.of ?_ K
        have K68 : ∀ target, Steps p.tables e below (s₁.setTop (mkF m 89 #[.val (.int p0), .val (.int p1), .val (.int p2), .val (.int p3), .val (.int p4), .val (.int p5), .val (.int p6)] [(.int (4 : Int32)), (.int p0)])) target → Steps p.tables e below (s₁.setTop (mkF m 87 #[.val (.int p0), .val (.int p1), .val (.int p2), .val (.int p3), .val (.int p4), .val (.int p5), .val (.int p6)] [])) target := by
          intro target kt
          show Steps p.tables e below (s₁.setTop (mkF m 87 #[.val (.int p0), .val (.int p1), .val (.int p2), .val (.int p3), .val (.int p4), .val (.int p5), .val (.int p6)] [])) _
          refine XS.iloadN X0.here hx rfl (hb hby d9_87) rfl ?_
          show Steps p.tables e below (s₁.setTop (mkF m 88 #[.val (.int p0), .val (.int p1), .val (.int p2), .val (.int p3), .val (.int p4), .val (.int p5), .val (.int p6)] [(.int p0)])) _
          refine XS.iconst X0.here hx rfl (hb hby d9_88) ?_
          exact kt
        refine Done.of ?_ K68
        by_cases hc89_69 : p0 = (4 : Int32)
        · have K : ∀ target, Steps p.tables e below (s₁.setTop (mkF m 92 #[.val (.int p0), .val (.int p1), .val (.int p2), .val (.int p3), .val (.int p4), .val (.int p5), .val (.int p6)] [])) target → Steps p.tables e below (s₁.setTop (mkF m 89 #[.val (.int p0), .val (.int p1), .val (.int p2), .val (.int p3), .val (.int p4), .val (.int p5), .val (.int p6)] [(.int (4 : Int32)), (.int p0)])) target := by
            intro target kt
            refine XS.icmpNo X0.here hx rfl (hb hby d9_89) rfl (teq hc89_69).2 ?_
            exact kt
          refine Done.of ?_ K
          obtain ⟨T70, h70, X70, e70, E70, A70, D70, -, st70⟩ := newO X0 hx hZ hown (hw _ (List.mem_of_getElem? (i := 52) rfl)) (hw _ (List.mem_of_getElem? (i := 2) rfl)) (hw _ (List.mem_of_getElem? (i := 1) rfl)) e0 (g := (mkF m 92 #[.val (.int p0), .val (.int p1), .val (.int p2), .val (.int p3), .val (.int p4), .val (.int p5), .val (.int p6)] [])) rfl (hb hby d9_92) (by decide) (by decide)
          obtain ⟨b70, g70⟩ : ∃ z, z = h0.size := ⟨_, rfl⟩
          rw [← g70] at A70 D70 st70
          have gnb70 : n0 ≤ b70 := Nat.le_trans Z0 (Nat.le_of_eq g70.symm)
          have Z70 : n0 ≤ h70.size := Nat.le_trans Z0 E70.1
          have szb70 : h0.size ≤ b70 := Nat.le_trans (Keep.refl h0 []).1 (Nat.le_of_eq g70.symm)
          have Kp70 := (Keep.refl h0 []).ext E70
          have F70_value : Fld Z h70 b70 "java/lang/String" "value" "[B" .null := D70 (Or.inr (hw _ (List.mem_of_getElem? (i := 4) rfl))) (ty := (.array .byte)) (by decide)
          have F70_coder : Fld Z h70 b70 "java/lang/String" "coder" "B" (.int (0 : Int32)) := D70 (Or.inr (hw _ (List.mem_of_getElem? (i := 5) rfl))) (ty := .byte) (by decide)
          obtain ⟨T71, h71, k71, X71, e71, E71, A71, st71⟩ := newP X70 hx hZ (hw _ (List.mem_of_getElem? (i := 53) rfl)) e70 (g := (mkF m 97 #[.val (.int p0), .val (.int p1), .val (.int p2), .val (.int p3), .val (.int p4), .val (.int p5), .val (.int p6)] [(.int (4 : Int32)), (.ref b70), (.ref b70)])) rfl (hb hby d9_97) rfl (by decide) (cap := 4) (by decide) (by decide) (by decide) (by decide)
          obtain ⟨b71, g71⟩ : ∃ z, z = h70.size := ⟨_, rfl⟩
          rw [← g71] at A71 st71
          have gnb71 : n0 ≤ b71 := Nat.le_trans Z70 (Nat.le_of_eq g71.symm)
          have Z71 : n0 ≤ h71.size := Nat.le_trans Z70 E71.1
          have szb71 : h0.size ≤ b71 := Nat.le_trans Kp70.1 (Nat.le_of_eq g71.symm)
          have Kp71 := Kp70.ext E71
          have ne_71_1 : b70 ≠ b71 := Nat.ne_of_lt (Nat.lt_of_lt_of_le A70.lt (Nat.le_of_eq g71.symm))
          have V71 : Arv Z h71 b71 k71 .char (4 : Int32) [(.int (0 : Int32)), (.int (0 : Int32)), (.int (0 : Int32)), (.int (0 : Int32))] (.int (0 : Int32)) := (Arv.new A71 (by decide)).pad (pad_rep [] (.int (0 : Int32)) 4)
          obtain ⟨cl72, Ar72, qq72, S72, M72, H72, G72⟩ := id V71
          have hin72 : ¬ ((0 : Int32) < 0 ∨ cl72.slots.size ≤ ((0 : Int32)).toNatClampNeg) := inb_of S72 ⟨by decide, by decide⟩
          obtain ⟨T73, h73, X73, e73, W73, st73⟩ := stC X71 hx hZ e71 Ar72 (j := (0 : Int32)) hin72 (g := (mkF m 102 #[.val (.int p0), .val (.int p1), .val (.int p2), .val (.int p3), .val (.int p4), .val (.int p5), .val (.int p6)] [(.int p1), (.int (0 : Int32)), (.ref b71), (.ref b71), (.ref b70), (.ref b70)])) rfl rfl (hb hby d9_102)
          have V73 : Arv Z h73 b71 k71 .char (4 : Int32) [(.int (p1.toUInt32.toUInt16.toUInt32.toInt32)), (.int (0 : Int32)), (.int (0 : Int32)), (.int (0 : Int32))] _ := Arv.set Ar72 qq72 S72 M72 H72 G72 (fits_nar_char _) W73 0 rfl (Nat.le_of_ble_eq_true rfl)
          have N73 := Fr.snoc X73 N0 gnb71
          have Z73 : n0 ≤ h73.size := Nat.le_trans Z71 (Nat.le_of_eq W73.size.symm)
          have Kp73 := Kp71.wr W73 (Or.inr szb71)
          obtain ⟨cl74, Ar74, qq74, S74, M74, H74, G74⟩ := id V73
          have hin74 : ¬ ((1 : Int32) < 0 ∨ cl74.slots.size ≤ ((1 : Int32)).toNatClampNeg) := inb_of S74 ⟨by decide, by decide⟩
          obtain ⟨T75, h75, X75, e75, W75, st75⟩ := stC X73 hx hZ e73 Ar74 (j := (1 : Int32)) hin74 (g := (mkF m 106 #[.val (.int p0), .val (.int p1), .val (.int p2), .val (.int p3), .val (.int p4), .val (.int p5), .val (.int p6)] [(.int p2), (.int (1 : Int32)), (.ref b71), (.ref b71), (.ref b70), (.ref b70)])) rfl rfl (hb hby d9_106)
          have V75 : Arv Z h75 b71 k71 .char (4 : Int32) [(.int (p1.toUInt32.toUInt16.toUInt32.toInt32)), (.int (p2.toUInt32.toUInt16.toUInt32.toInt32)), (.int (0 : Int32)), (.int (0 : Int32))] _ := Arv.set Ar74 qq74 S74 M74 H74 G74 (fits_nar_char _) W75 1 rfl (Nat.le_of_ble_eq_true rfl)
          have N75 := Fr.snoc X75 N73 gnb71
          have Z75 : n0 ≤ h75.size := Nat.le_trans Z73 (Nat.le_of_eq W75.size.symm)
          have Kp75 := Kp73.wr W75 (Or.inr szb71)
          obtain ⟨cl76, Ar76, qq76, S76, M76, H76, G76⟩ := id V75
          have hin76 : ¬ ((2 : Int32) < 0 ∨ cl76.slots.size ≤ ((2 : Int32)).toNatClampNeg) := inb_of S76 ⟨by decide, by decide⟩
          obtain ⟨T77, h77, X77, e77, W77, st77⟩ := stC X75 hx hZ e75 Ar76 (j := (2 : Int32)) hin76 (g := (mkF m 110 #[.val (.int p0), .val (.int p1), .val (.int p2), .val (.int p3), .val (.int p4), .val (.int p5), .val (.int p6)] [(.int p3), (.int (2 : Int32)), (.ref b71), (.ref b71), (.ref b70), (.ref b70)])) rfl rfl (hb hby d9_110)
          have V77 : Arv Z h77 b71 k71 .char (4 : Int32) [(.int (p1.toUInt32.toUInt16.toUInt32.toInt32)), (.int (p2.toUInt32.toUInt16.toUInt32.toInt32)), (.int (p3.toUInt32.toUInt16.toUInt32.toInt32)), (.int (0 : Int32))] _ := Arv.set Ar76 qq76 S76 M76 H76 G76 (fits_nar_char _) W77 2 rfl (Nat.le_of_ble_eq_true rfl)
          have N77 := Fr.snoc X77 N75 gnb71
          have Z77 : n0 ≤ h77.size := Nat.le_trans Z75 (Nat.le_of_eq W77.size.symm)
          have Kp77 := Kp75.wr W77 (Or.inr szb71)
          obtain ⟨cl78, Ar78, qq78, S78, M78, H78, G78⟩ := id V77
          have hin78 : ¬ ((3 : Int32) < 0 ∨ cl78.slots.size ≤ ((3 : Int32)).toNatClampNeg) := inb_of S78 ⟨by decide, by decide⟩
          obtain ⟨T79, h79, X79, e79, W79, st79⟩ := stC X77 hx hZ e77 Ar78 (j := (3 : Int32)) hin78 (g := (mkF m 115 #[.val (.int p0), .val (.int p1), .val (.int p2), .val (.int p3), .val (.int p4), .val (.int p5), .val (.int p6)] [(.int p4), (.int (3 : Int32)), (.ref b71), (.ref b71), (.ref b70), (.ref b70)])) rfl rfl (hb hby d9_115)
          have V79 : Arv Z h79 b71 k71 .char (4 : Int32) [(.int (p1.toUInt32.toUInt16.toUInt32.toInt32)), (.int (p2.toUInt32.toUInt16.toUInt32.toInt32)), (.int (p3.toUInt32.toUInt16.toUInt32.toInt32)), (.int (p4.toUInt32.toUInt16.toUInt32.toInt32))] _ := Arv.set Ar78 qq78 S78 M78 H78 G78 (fits_nar_char _) W79 3 rfl (Nat.le_of_ble_eq_true rfl)
          have N79 := Fr.snoc X79 N77 gnb71
          have Z79 : n0 ≤ h79.size := Nat.le_trans Z77 (Nat.le_of_eq W79.size.symm)
          have Kp79 := Kp77.wr W79 (Or.inr szb71)
          have hp_b70 : ∀ c ∈ ([(p1.toUInt32.toUInt16.toUInt32.toInt32), (p2.toUInt32.toUInt16.toUInt32.toInt32), (p3.toUInt32.toUInt16.toUInt32.toInt32), (p4.toUInt32.toUInt16.toUInt32.toInt32)] : List Int32), ¬ c < 0 ∧ ¬ (255 : Int32) < c := (List.forall_mem_cons.mpr ⟨(own_pc hp1), (List.forall_mem_cons.mpr ⟨(own_pc hp2), (List.forall_mem_cons.mpr ⟨(own_pc hp3), (List.forall_mem_cons.mpr ⟨(own_pc hp4), (fun _ hx => nomatch hx)⟩)⟩)⟩)⟩)
          have cy80 := (A70.ext E71)
          have cy81 := (cy80.wr W73)
          have cy82 := (cy81.wr W75)
          have cy83 := (cy82.wr W77)
          have cy84 := (cy83.wr W79)
          have cy85 := (F70_value.ext E71)
          have cy86 := (cy85.other W73 (Or.inl ne_71_1))
          have cy87 := (cy86.other W75 (Or.inl ne_71_1))
          have cy88 := (cy87.other W77 (Or.inl ne_71_1))
          have cy89 := (cy88.other W79 (Or.inl ne_71_1))
          have cy90 := (F70_coder.ext E71)
          have cy91 := (cy90.other W73 (Or.inl ne_71_1))
          have cy92 := (cy91.other W75 (Or.inl ne_71_1))
          have cy93 := (cy92.other W77 (Or.inl ne_71_1))
          have cy94 := (cy93.other W79 (Or.inl ne_71_1))
          have cy95 := (SCS.ext E70)
          have cy96 := (cy95.ext E71)
          have cy97 := (cy96.wr W73)
          have cy98 := (cy97.wr W75)
          have cy99 := (cy98.wr W77)
          have cy100 := (cy99.wr W79)
          obtain ⟨_, _, ⟨T101, L101, k101, n101⟩, -, X101, ⟨Lc101, hQ101, l101, y101, z101⟩, st101⟩ := X79.specialBack hx (y := (⟨"java/lang/String", "<init>", "([C)V"⟩ : MethodName)) rfl hown (mvT hZ (hw _ (List.mem_of_getElem? (i := 54) rfl))) (mvT hZ (hw _ (List.mem_of_getElem? (i := 55) rfl))) (mvT hZ (hw _ (List.mem_of_getElem? (i := 56) rfl))) (by decide) (StrChars.Road.backV (W := 1) hZ hws (kI := 4) (hw _ (List.mem_of_getElem? (i := 2) rfl)) (cs := ([(p1.toUInt32.toUInt16.toUInt32.toInt32), (p2.toUInt32.toUInt16.toUInt32.toInt32), (p3.toUInt32.toUInt16.toUInt32.toInt32), (p4.toUInt32.toUInt16.toUInt32.toInt32)] : List Int32)) (bs := ([(p1.toUInt32.toUInt16.toUInt32.toInt32), (p2.toUInt32.toUInt16.toUInt32.toInt32), (p3.toUInt32.toUInt16.toUInt32.toInt32), (p4.toUInt32.toUInt16.toUInt32.toInt32)] : List Int32).map (fun c => c.toInt8.toInt32)) (N := (4 : Int32)) (n := 4) (n0 := n0) gnb70 Z79 cy84 cy89 cy94 V79 cy100 hcs rfl rfl (by decide) (by decide) hp_b70 rfl (by decide) (by decide)) (g := (mkF m 116 #[.val (.int p0), .val (.int p1), .val (.int p2), .val (.int p3), .val (.int p4), .val (.int p5), .val (.int p6)] [(.ref b71), (.ref b70), (.ref b70)])) rfl (by rw [hml]; rfl) (Steps.refl _) (a := b70) (argsL := [(.ref b71)]) (rest := [(.ref b70)]) (lenOf pd_3 rfl) rfl (by show 2 * 0 + _ ≤ _; exact Nat.le_of_eq rfl) (hb hby d9_116) (fun _ _ => ⟨rfl, e79, (by decide : 2 + 1 ≤ _), (by decide : 8 + 4 ≤ _)⟩)
          dsimp only [Pt.U, Pt.locs, Pt.cells, Pt.slots] at X101 l101 y101 z101 st101 hQ101
          rw [l101, y101, z101] at X101
          obtain ⟨rfl, N101q, K101q, E101a, C101a, t101, kb101, -, -, -, V101a, A101a⟩ := hQ101
          have N101 := Fr.app N79 N101q
          have Z101 : n0 ≤ T101.heap.size := Nat.le_trans Z79 K101q.1
          have Kp101 := Kp79.trans K101q (fun x hx => Or.inr (by cases List.mem_singleton.mp hx; exact szb70))
          have TS101 : own_Str Z T101.heap b70 ([(p1.toUInt32.toUInt16.toUInt32.toInt32), (p2.toUInt32.toUInt16.toUInt32.toInt32), (p3.toUInt32.toUInt16.toUInt32.toInt32), (p4.toUInt32.toUInt16.toUInt32.toInt32)] : List Int32) := ⟨t101, kb101, _, _, E101a, V101a, C101a, A101a, Or.inl ⟨rfl, rfl, rfl, fun c hc => (hp_b70 c hc).2⟩, own_up hp_b70, Nat.le_of_ble_eq_true rfl⟩
          obtain ⟨fs, hr, hrun, hended, hW, hsame⟩ := X101.leave (v := some (.ref b70)) (fun h => by rw [Bd.returns] at h; cases h)
          refine ⟨_, _, ?_, hrun, hended, _, _, rfl, ?_, ⟨_, rfl⟩, hW, hsame.mono (by decide) (by decide)⟩
          · show Steps p.tables e below (s₁.setTop (mkF m 92 #[.val (.int p0), .val (.int p1), .val (.int p2), .val (.int p3), .val (.int p4), .val (.int p5), .val (.int p6)] [])) _
            refine st70 _ ?_
            show Steps p.tables e below (T70.setTop (mkF m 95 #[.val (.int p0), .val (.int p1), .val (.int p2), .val (.int p3), .val (.int p4), .val (.int p5), .val (.int p6)] [(.ref b70)])) _
            refine XS.dup X70.here hx rfl (hb hby d9_95) rfl rfl ?_
            show Steps p.tables e below (T70.setTop (mkF m 96 #[.val (.int p0), .val (.int p1), .val (.int p2), .val (.int p3), .val (.int p4), .val (.int p5), .val (.int p6)] [(.ref b70), (.ref b70)])) _
            refine XS.iconst X70.here hx rfl (hb hby d9_96) ?_
            show Steps p.tables e below (T70.setTop (mkF m 97 #[.val (.int p0), .val (.int p1), .val (.int p2), .val (.int p3), .val (.int p4), .val (.int p5), .val (.int p6)] [(.int (4 : Int32)), (.ref b70), (.ref b70)])) _
            refine st71 _ ?_
            show Steps p.tables e below (T71.setTop (mkF m 99 #[.val (.int p0), .val (.int p1), .val (.int p2), .val (.int p3), .val (.int p4), .val (.int p5), .val (.int p6)] [(.ref b71), (.ref b70), (.ref b70)])) _
            refine XS.dup X71.here hx rfl (hb hby d9_99) rfl rfl ?_
            show Steps p.tables e below (T71.setTop (mkF m 100 #[.val (.int p0), .val (.int p1), .val (.int p2), .val (.int p3), .val (.int p4), .val (.int p5), .val (.int p6)] [(.ref b71), (.ref b71), (.ref b70), (.ref b70)])) _
            refine XS.iconst X71.here hx rfl (hb hby d9_100) ?_
            show Steps p.tables e below (T71.setTop (mkF m 101 #[.val (.int p0), .val (.int p1), .val (.int p2), .val (.int p3), .val (.int p4), .val (.int p5), .val (.int p6)] [(.int (0 : Int32)), (.ref b71), (.ref b71), (.ref b70), (.ref b70)])) _
            refine XS.iloadN X71.here hx rfl (hb hby d9_101) rfl ?_
            show Steps p.tables e below (T71.setTop (mkF m 102 #[.val (.int p0), .val (.int p1), .val (.int p2), .val (.int p3), .val (.int p4), .val (.int p5), .val (.int p6)] [(.int p1), (.int (0 : Int32)), (.ref b71), (.ref b71), (.ref b70), (.ref b70)])) _
            refine st73 _ ?_
            show Steps p.tables e below (T73.setTop (mkF m 103 #[.val (.int p0), .val (.int p1), .val (.int p2), .val (.int p3), .val (.int p4), .val (.int p5), .val (.int p6)] [(.ref b71), (.ref b70), (.ref b70)])) _
            refine XS.dup X73.here hx rfl (hb hby d9_103) rfl rfl ?_
            show Steps p.tables e below (T73.setTop (mkF m 104 #[.val (.int p0), .val (.int p1), .val (.int p2), .val (.int p3), .val (.int p4), .val (.int p5), .val (.int p6)] [(.ref b71), (.ref b71), (.ref b70), (.ref b70)])) _
            refine XS.iconst X73.here hx rfl (hb hby d9_104) ?_
            show Steps p.tables e below (T73.setTop (mkF m 105 #[.val (.int p0), .val (.int p1), .val (.int p2), .val (.int p3), .val (.int p4), .val (.int p5), .val (.int p6)] [(.int (1 : Int32)), (.ref b71), (.ref b71), (.ref b70), (.ref b70)])) _
            refine XS.iloadN X73.here hx rfl (hb hby d9_105) rfl ?_
            show Steps p.tables e below (T73.setTop (mkF m 106 #[.val (.int p0), .val (.int p1), .val (.int p2), .val (.int p3), .val (.int p4), .val (.int p5), .val (.int p6)] [(.int p2), (.int (1 : Int32)), (.ref b71), (.ref b71), (.ref b70), (.ref b70)])) _
            refine st75 _ ?_
            show Steps p.tables e below (T75.setTop (mkF m 107 #[.val (.int p0), .val (.int p1), .val (.int p2), .val (.int p3), .val (.int p4), .val (.int p5), .val (.int p6)] [(.ref b71), (.ref b70), (.ref b70)])) _
            refine XS.dup X75.here hx rfl (hb hby d9_107) rfl rfl ?_
            show Steps p.tables e below (T75.setTop (mkF m 108 #[.val (.int p0), .val (.int p1), .val (.int p2), .val (.int p3), .val (.int p4), .val (.int p5), .val (.int p6)] [(.ref b71), (.ref b71), (.ref b70), (.ref b70)])) _
            refine XS.iconst X75.here hx rfl (hb hby d9_108) ?_
            show Steps p.tables e below (T75.setTop (mkF m 109 #[.val (.int p0), .val (.int p1), .val (.int p2), .val (.int p3), .val (.int p4), .val (.int p5), .val (.int p6)] [(.int (2 : Int32)), (.ref b71), (.ref b71), (.ref b70), (.ref b70)])) _
            refine XS.iloadN X75.here hx rfl (hb hby d9_109) rfl ?_
            show Steps p.tables e below (T75.setTop (mkF m 110 #[.val (.int p0), .val (.int p1), .val (.int p2), .val (.int p3), .val (.int p4), .val (.int p5), .val (.int p6)] [(.int p3), (.int (2 : Int32)), (.ref b71), (.ref b71), (.ref b70), (.ref b70)])) _
            refine st77 _ ?_
            show Steps p.tables e below (T77.setTop (mkF m 111 #[.val (.int p0), .val (.int p1), .val (.int p2), .val (.int p3), .val (.int p4), .val (.int p5), .val (.int p6)] [(.ref b71), (.ref b70), (.ref b70)])) _
            refine XS.dup X77.here hx rfl (hb hby d9_111) rfl rfl ?_
            show Steps p.tables e below (T77.setTop (mkF m 112 #[.val (.int p0), .val (.int p1), .val (.int p2), .val (.int p3), .val (.int p4), .val (.int p5), .val (.int p6)] [(.ref b71), (.ref b71), (.ref b70), (.ref b70)])) _
            refine XS.iconst X77.here hx rfl (hb hby d9_112) ?_
            show Steps p.tables e below (T77.setTop (mkF m 113 #[.val (.int p0), .val (.int p1), .val (.int p2), .val (.int p3), .val (.int p4), .val (.int p5), .val (.int p6)] [(.int (3 : Int32)), (.ref b71), (.ref b71), (.ref b70), (.ref b70)])) _
            refine XS.iload X77.here hx rfl (hb hby d9_113) rfl ?_
            show Steps p.tables e below (T77.setTop (mkF m 115 #[.val (.int p0), .val (.int p1), .val (.int p2), .val (.int p3), .val (.int p4), .val (.int p5), .val (.int p6)] [(.int p4), (.int (3 : Int32)), (.ref b71), (.ref b71), (.ref b70), (.ref b70)])) _
            refine st79 _ ?_
            show Steps p.tables e below (T79.setTop (mkF m 116 #[.val (.int p0), .val (.int p1), .val (.int p2), .val (.int p3), .val (.int p4), .val (.int p5), .val (.int p6)] [(.ref b71), (.ref b70), (.ref b70)])) _
            refine st101.trans ?_
            show Steps p.tables e below (T101.setTop (mkF m 119 #[.val (.int p0), .val (.int p1), .val (.int p2), .val (.int p3), .val (.int p4), .val (.int p5), .val (.int p6)] [(.ref b70)])) _
            jvm_step X101.here [X101.here.top, hx, (hb hby d9_119), X101.method', Bd.returns, Value.isRef, FieldType.isReference]
            first | (intro acts; rw [hr _ acts rfl rfl rfl]) | rw [hr _ _ rfl rfl rfl]
            exact Steps.refl _
          · show Q9t Z p0 p1 p2 p3 p4 p5 p6 cz h0 n0 _ T101.heap _
            exact ⟨b70, _, rfl, N101, Kp101, TS101, hp_b70⟩
        · have K : ∀ target, Steps p.tables e below (s₁.setTop (mkF m 120 #[.val (.int p0), .val (.int p1), .val (.int p2), .val (.int p3), .val (.int p4), .val (.int p5), .val (.int p6)] [])) target → Steps p.tables e below (s₁.setTop (mkF m 89 #[.val (.int p0), .val (.int p1), .val (.int p2), .val (.int p3), .val (.int p4), .val (.int p5), .val (.int p6)] [(.int (4 : Int32)), (.int p0)])) target := by
            intro target kt
            refine XS.icmpYes X0.here hx rfl (pc0 := 89) (pc' := 120) rfl (hb hby d9_89) rfl (feq hc89_69).2 (by decide) (by decide) ?_
            exact kt
          refine Done.of ?_ K
          have K102 : ∀ target, Steps p.tables e below (s₁.setTop (mkF m 122 #[.val (.int p0), .val (.int p1), .val (.int p2), .val (.int p3), .val (.int p4), .val (.int p5), .val (.int p6)] [(.int (5 : Int32)), (.int p0)])) target → Steps p.tables e below (s₁.setTop (mkF m 120 #[.val (.int p0), .val (.int p1), .val (.int p2), .val (.int p3), .val (.int p4), .val (.int p5), .val (.int p6)] [])) target := by
            intro target kt
            show Steps p.tables e below (s₁.setTop (mkF m 120 #[.val (.int p0), .val (.int p1), .val (.int p2), .val (.int p3), .val (.int p4), .val (.int p5), .val (.int p6)] [])) _
            refine XS.iloadN X0.here hx rfl (hb hby d9_120) rfl ?_
            show Steps p.tables e below (s₁.setTop (mkF m 121 #[.val (.int p0), .val (.int p1), .val (.int p2), .val (.int p3), .val (.int p4), .val (.int p5), .val (.int p6)] [(.int p0)])) _
            refine XS.iconst X0.here hx rfl (hb hby d9_121) ?_
            exact kt
          refine Done.of ?_ K102
          by_cases hc122_103 : p0 = (5 : Int32)
          · have K : ∀ target, Steps p.tables e below (s₁.setTop (mkF m 125 #[.val (.int p0), .val (.int p1), .val (.int p2), .val (.int p3), .val (.int p4), .val (.int p5), .val (.int p6)] [])) target → Steps p.tables e below (s₁.setTop (mkF m 122 #[.val (.int p0), .val (.int p1), .val (.int p2), .val (.int p3), .val (.int p4), .val (.int p5), .val (.int p6)] [(.int (5 : Int32)), (.int p0)])) target := by
              intro target kt
              refine XS.icmpNo X0.here hx rfl (hb hby d9_122) rfl (teq hc122_103).2 ?_
              exact kt
            refine Done.of ?_ K
            obtain ⟨T104, h104, X104, e104, E104, A104, D104, -, st104⟩ := newO X0 hx hZ hown (hw _ (List.mem_of_getElem? (i := 52) rfl)) (hw _ (List.mem_of_getElem? (i := 2) rfl)) (hw _ (List.mem_of_getElem? (i := 1) rfl)) e0 (g := (mkF m 125 #[.val (.int p0), .val (.int p1), .val (.int p2), .val (.int p3), .val (.int p4), .val (.int p5), .val (.int p6)] [])) rfl (hb hby d9_125) (by decide) (by decide)
            obtain ⟨b104, g104⟩ : ∃ z, z = h0.size := ⟨_, rfl⟩
            rw [← g104] at A104 D104 st104
            have gnb104 : n0 ≤ b104 := Nat.le_trans Z0 (Nat.le_of_eq g104.symm)
            have Z104 : n0 ≤ h104.size := Nat.le_trans Z0 E104.1
            have szb104 : h0.size ≤ b104 := Nat.le_trans (Keep.refl h0 []).1 (Nat.le_of_eq g104.symm)
            have Kp104 := (Keep.refl h0 []).ext E104
            have F104_value : Fld Z h104 b104 "java/lang/String" "value" "[B" .null := D104 (Or.inr (hw _ (List.mem_of_getElem? (i := 4) rfl))) (ty := (.array .byte)) (by decide)
            have F104_coder : Fld Z h104 b104 "java/lang/String" "coder" "B" (.int (0 : Int32)) := D104 (Or.inr (hw _ (List.mem_of_getElem? (i := 5) rfl))) (ty := .byte) (by decide)
            obtain ⟨T105, h105, k105, X105, e105, E105, A105, st105⟩ := newP X104 hx hZ (hw _ (List.mem_of_getElem? (i := 53) rfl)) e104 (g := (mkF m 130 #[.val (.int p0), .val (.int p1), .val (.int p2), .val (.int p3), .val (.int p4), .val (.int p5), .val (.int p6)] [(.int (5 : Int32)), (.ref b104), (.ref b104)])) rfl (hb hby d9_130) rfl (by decide) (cap := 5) (by decide) (by decide) (by decide) (by decide)
            obtain ⟨b105, g105⟩ : ∃ z, z = h104.size := ⟨_, rfl⟩
            rw [← g105] at A105 st105
            have gnb105 : n0 ≤ b105 := Nat.le_trans Z104 (Nat.le_of_eq g105.symm)
            have Z105 : n0 ≤ h105.size := Nat.le_trans Z104 E105.1
            have szb105 : h0.size ≤ b105 := Nat.le_trans Kp104.1 (Nat.le_of_eq g105.symm)
            have Kp105 := Kp104.ext E105
            have ne_105_1 : b104 ≠ b105 := Nat.ne_of_lt (Nat.lt_of_lt_of_le A104.lt (Nat.le_of_eq g105.symm))
            have V105 : Arv Z h105 b105 k105 .char (5 : Int32) [(.int (0 : Int32)), (.int (0 : Int32)), (.int (0 : Int32)), (.int (0 : Int32)), (.int (0 : Int32))] (.int (0 : Int32)) := (Arv.new A105 (by decide)).pad (pad_rep [] (.int (0 : Int32)) 5)
            obtain ⟨cl106, Ar106, qq106, S106, M106, H106, G106⟩ := id V105
            have hin106 : ¬ ((0 : Int32) < 0 ∨ cl106.slots.size ≤ ((0 : Int32)).toNatClampNeg) := inb_of S106 ⟨by decide, by decide⟩
            obtain ⟨T107, h107, X107, e107, W107, st107⟩ := stC X105 hx hZ e105 Ar106 (j := (0 : Int32)) hin106 (g := (mkF m 135 #[.val (.int p0), .val (.int p1), .val (.int p2), .val (.int p3), .val (.int p4), .val (.int p5), .val (.int p6)] [(.int p1), (.int (0 : Int32)), (.ref b105), (.ref b105), (.ref b104), (.ref b104)])) rfl rfl (hb hby d9_135)
            have V107 : Arv Z h107 b105 k105 .char (5 : Int32) [(.int (p1.toUInt32.toUInt16.toUInt32.toInt32)), (.int (0 : Int32)), (.int (0 : Int32)), (.int (0 : Int32)), (.int (0 : Int32))] _ := Arv.set Ar106 qq106 S106 M106 H106 G106 (fits_nar_char _) W107 0 rfl (Nat.le_of_ble_eq_true rfl)
            have N107 := Fr.snoc X107 N0 gnb105
            have Z107 : n0 ≤ h107.size := Nat.le_trans Z105 (Nat.le_of_eq W107.size.symm)
            have Kp107 := Kp105.wr W107 (Or.inr szb105)
            obtain ⟨cl108, Ar108, qq108, S108, M108, H108, G108⟩ := id V107
            have hin108 : ¬ ((1 : Int32) < 0 ∨ cl108.slots.size ≤ ((1 : Int32)).toNatClampNeg) := inb_of S108 ⟨by decide, by decide⟩
            obtain ⟨T109, h109, X109, e109, W109, st109⟩ := stC X107 hx hZ e107 Ar108 (j := (1 : Int32)) hin108 (g := (mkF m 139 #[.val (.int p0), .val (.int p1), .val (.int p2), .val (.int p3), .val (.int p4), .val (.int p5), .val (.int p6)] [(.int p2), (.int (1 : Int32)), (.ref b105), (.ref b105), (.ref b104), (.ref b104)])) rfl rfl (hb hby d9_139)
            have V109 : Arv Z h109 b105 k105 .char (5 : Int32) [(.int (p1.toUInt32.toUInt16.toUInt32.toInt32)), (.int (p2.toUInt32.toUInt16.toUInt32.toInt32)), (.int (0 : Int32)), (.int (0 : Int32)), (.int (0 : Int32))] _ := Arv.set Ar108 qq108 S108 M108 H108 G108 (fits_nar_char _) W109 1 rfl (Nat.le_of_ble_eq_true rfl)
            have N109 := Fr.snoc X109 N107 gnb105
            have Z109 : n0 ≤ h109.size := Nat.le_trans Z107 (Nat.le_of_eq W109.size.symm)
            have Kp109 := Kp107.wr W109 (Or.inr szb105)
            obtain ⟨cl110, Ar110, qq110, S110, M110, H110, G110⟩ := id V109
            have hin110 : ¬ ((2 : Int32) < 0 ∨ cl110.slots.size ≤ ((2 : Int32)).toNatClampNeg) := inb_of S110 ⟨by decide, by decide⟩
            obtain ⟨T111, h111, X111, e111, W111, st111⟩ := stC X109 hx hZ e109 Ar110 (j := (2 : Int32)) hin110 (g := (mkF m 143 #[.val (.int p0), .val (.int p1), .val (.int p2), .val (.int p3), .val (.int p4), .val (.int p5), .val (.int p6)] [(.int p3), (.int (2 : Int32)), (.ref b105), (.ref b105), (.ref b104), (.ref b104)])) rfl rfl (hb hby d9_143)
            have V111 : Arv Z h111 b105 k105 .char (5 : Int32) [(.int (p1.toUInt32.toUInt16.toUInt32.toInt32)), (.int (p2.toUInt32.toUInt16.toUInt32.toInt32)), (.int (p3.toUInt32.toUInt16.toUInt32.toInt32)), (.int (0 : Int32)), (.int (0 : Int32))] _ := Arv.set Ar110 qq110 S110 M110 H110 G110 (fits_nar_char _) W111 2 rfl (Nat.le_of_ble_eq_true rfl)
            have N111 := Fr.snoc X111 N109 gnb105
            have Z111 : n0 ≤ h111.size := Nat.le_trans Z109 (Nat.le_of_eq W111.size.symm)
            have Kp111 := Kp109.wr W111 (Or.inr szb105)
            obtain ⟨cl112, Ar112, qq112, S112, M112, H112, G112⟩ := id V111
            have hin112 : ¬ ((3 : Int32) < 0 ∨ cl112.slots.size ≤ ((3 : Int32)).toNatClampNeg) := inb_of S112 ⟨by decide, by decide⟩
            obtain ⟨T113, h113, X113, e113, W113, st113⟩ := stC X111 hx hZ e111 Ar112 (j := (3 : Int32)) hin112 (g := (mkF m 148 #[.val (.int p0), .val (.int p1), .val (.int p2), .val (.int p3), .val (.int p4), .val (.int p5), .val (.int p6)] [(.int p4), (.int (3 : Int32)), (.ref b105), (.ref b105), (.ref b104), (.ref b104)])) rfl rfl (hb hby d9_148)
            have V113 : Arv Z h113 b105 k105 .char (5 : Int32) [(.int (p1.toUInt32.toUInt16.toUInt32.toInt32)), (.int (p2.toUInt32.toUInt16.toUInt32.toInt32)), (.int (p3.toUInt32.toUInt16.toUInt32.toInt32)), (.int (p4.toUInt32.toUInt16.toUInt32.toInt32)), (.int (0 : Int32))] _ := Arv.set Ar112 qq112 S112 M112 H112 G112 (fits_nar_char _) W113 3 rfl (Nat.le_of_ble_eq_true rfl)
            have N113 := Fr.snoc X113 N111 gnb105
            have Z113 : n0 ≤ h113.size := Nat.le_trans Z111 (Nat.le_of_eq W113.size.symm)
            have Kp113 := Kp111.wr W113 (Or.inr szb105)
            obtain ⟨cl114, Ar114, qq114, S114, M114, H114, G114⟩ := id V113
            have hin114 : ¬ ((4 : Int32) < 0 ∨ cl114.slots.size ≤ ((4 : Int32)).toNatClampNeg) := inb_of S114 ⟨by decide, by decide⟩
            obtain ⟨T115, h115, X115, e115, W115, st115⟩ := stC X113 hx hZ e113 Ar114 (j := (4 : Int32)) hin114 (g := (mkF m 153 #[.val (.int p0), .val (.int p1), .val (.int p2), .val (.int p3), .val (.int p4), .val (.int p5), .val (.int p6)] [(.int p5), (.int (4 : Int32)), (.ref b105), (.ref b105), (.ref b104), (.ref b104)])) rfl rfl (hb hby d9_153)
            have V115 : Arv Z h115 b105 k105 .char (5 : Int32) [(.int (p1.toUInt32.toUInt16.toUInt32.toInt32)), (.int (p2.toUInt32.toUInt16.toUInt32.toInt32)), (.int (p3.toUInt32.toUInt16.toUInt32.toInt32)), (.int (p4.toUInt32.toUInt16.toUInt32.toInt32)), (.int (p5.toUInt32.toUInt16.toUInt32.toInt32))] _ := Arv.set Ar114 qq114 S114 M114 H114 G114 (fits_nar_char _) W115 4 rfl (Nat.le_of_ble_eq_true rfl)
            have N115 := Fr.snoc X115 N113 gnb105
            have Z115 : n0 ≤ h115.size := Nat.le_trans Z113 (Nat.le_of_eq W115.size.symm)
            have Kp115 := Kp113.wr W115 (Or.inr szb105)
            have hp_b104 : ∀ c ∈ ([(p1.toUInt32.toUInt16.toUInt32.toInt32), (p2.toUInt32.toUInt16.toUInt32.toInt32), (p3.toUInt32.toUInt16.toUInt32.toInt32), (p4.toUInt32.toUInt16.toUInt32.toInt32), (p5.toUInt32.toUInt16.toUInt32.toInt32)] : List Int32), ¬ c < 0 ∧ ¬ (255 : Int32) < c := (List.forall_mem_cons.mpr ⟨(own_pc hp1), (List.forall_mem_cons.mpr ⟨(own_pc hp2), (List.forall_mem_cons.mpr ⟨(own_pc hp3), (List.forall_mem_cons.mpr ⟨(own_pc hp4), (List.forall_mem_cons.mpr ⟨(own_pc hp5), (fun _ hx => nomatch hx)⟩)⟩)⟩)⟩)⟩)
            have cy116 := (A104.ext E105)
            have cy117 := (cy116.wr W107)
            have cy118 := (cy117.wr W109)
            have cy119 := (cy118.wr W111)
            have cy120 := (cy119.wr W113)
            have cy121 := (cy120.wr W115)
            have cy122 := (F104_value.ext E105)
            have cy123 := (cy122.other W107 (Or.inl ne_105_1))
            have cy124 := (cy123.other W109 (Or.inl ne_105_1))
            have cy125 := (cy124.other W111 (Or.inl ne_105_1))
            have cy126 := (cy125.other W113 (Or.inl ne_105_1))
            have cy127 := (cy126.other W115 (Or.inl ne_105_1))
            have cy128 := (F104_coder.ext E105)
            have cy129 := (cy128.other W107 (Or.inl ne_105_1))
            have cy130 := (cy129.other W109 (Or.inl ne_105_1))
            have cy131 := (cy130.other W111 (Or.inl ne_105_1))
            have cy132 := (cy131.other W113 (Or.inl ne_105_1))
            have cy133 := (cy132.other W115 (Or.inl ne_105_1))
            have cy134 := (SCS.ext E104)
            have cy135 := (cy134.ext E105)
            have cy136 := (cy135.wr W107)
            have cy137 := (cy136.wr W109)
            have cy138 := (cy137.wr W111)
            have cy139 := (cy138.wr W113)
            have cy140 := (cy139.wr W115)
            obtain ⟨_, _, ⟨T141, L141, k141, n141⟩, -, X141, ⟨Lc141, hQ141, l141, y141, z141⟩, st141⟩ := X115.specialBack hx (y := (⟨"java/lang/String", "<init>", "([C)V"⟩ : MethodName)) rfl hown (mvT hZ (hw _ (List.mem_of_getElem? (i := 54) rfl))) (mvT hZ (hw _ (List.mem_of_getElem? (i := 55) rfl))) (mvT hZ (hw _ (List.mem_of_getElem? (i := 56) rfl))) (by decide) (StrChars.Road.backV (W := 1) hZ hws (kI := 4) (hw _ (List.mem_of_getElem? (i := 2) rfl)) (cs := ([(p1.toUInt32.toUInt16.toUInt32.toInt32), (p2.toUInt32.toUInt16.toUInt32.toInt32), (p3.toUInt32.toUInt16.toUInt32.toInt32), (p4.toUInt32.toUInt16.toUInt32.toInt32), (p5.toUInt32.toUInt16.toUInt32.toInt32)] : List Int32)) (bs := ([(p1.toUInt32.toUInt16.toUInt32.toInt32), (p2.toUInt32.toUInt16.toUInt32.toInt32), (p3.toUInt32.toUInt16.toUInt32.toInt32), (p4.toUInt32.toUInt16.toUInt32.toInt32), (p5.toUInt32.toUInt16.toUInt32.toInt32)] : List Int32).map (fun c => c.toInt8.toInt32)) (N := (5 : Int32)) (n := 5) (n0 := n0) gnb104 Z115 cy121 cy127 cy133 V115 cy140 hcs rfl rfl (by decide) (by decide) hp_b104 rfl (by decide) (by decide)) (g := (mkF m 154 #[.val (.int p0), .val (.int p1), .val (.int p2), .val (.int p3), .val (.int p4), .val (.int p5), .val (.int p6)] [(.ref b105), (.ref b104), (.ref b104)])) rfl (by rw [hml]; rfl) (Steps.refl _) (a := b104) (argsL := [(.ref b105)]) (rest := [(.ref b104)]) (lenOf pd_3 rfl) rfl (by show 2 * 0 + _ ≤ _; exact Nat.le_of_eq rfl) (hb hby d9_154) (fun _ _ => ⟨rfl, e115, (by decide : 2 + 1 ≤ _), (by decide : 9 + 5 ≤ _)⟩)
            dsimp only [Pt.U, Pt.locs, Pt.cells, Pt.slots] at X141 l141 y141 z141 st141 hQ141
            rw [l141, y141, z141] at X141
            obtain ⟨rfl, N141q, K141q, E141a, C141a, t141, kb141, -, -, -, V141a, A141a⟩ := hQ141
            have N141 := Fr.app N115 N141q
            have Z141 : n0 ≤ T141.heap.size := Nat.le_trans Z115 K141q.1
            have Kp141 := Kp115.trans K141q (fun x hx => Or.inr (by cases List.mem_singleton.mp hx; exact szb104))
            have TS141 : own_Str Z T141.heap b104 ([(p1.toUInt32.toUInt16.toUInt32.toInt32), (p2.toUInt32.toUInt16.toUInt32.toInt32), (p3.toUInt32.toUInt16.toUInt32.toInt32), (p4.toUInt32.toUInt16.toUInt32.toInt32), (p5.toUInt32.toUInt16.toUInt32.toInt32)] : List Int32) := ⟨t141, kb141, _, _, E141a, V141a, C141a, A141a, Or.inl ⟨rfl, rfl, rfl, fun c hc => (hp_b104 c hc).2⟩, own_up hp_b104, Nat.le_of_ble_eq_true rfl⟩
            obtain ⟨fs, hr, hrun, hended, hW, hsame⟩ := X141.leave (v := some (.ref b104)) (fun h => by rw [Bd.returns] at h; cases h)
            refine ⟨_, _, ?_, hrun, hended, _, _, rfl, ?_, ⟨_, rfl⟩, hW, hsame.mono (by decide) (by decide)⟩
            · show Steps p.tables e below (s₁.setTop (mkF m 125 #[.val (.int p0), .val (.int p1), .val (.int p2), .val (.int p3), .val (.int p4), .val (.int p5), .val (.int p6)] [])) _
              refine st104 _ ?_
              show Steps p.tables e below (T104.setTop (mkF m 128 #[.val (.int p0), .val (.int p1), .val (.int p2), .val (.int p3), .val (.int p4), .val (.int p5), .val (.int p6)] [(.ref b104)])) _
              refine XS.dup X104.here hx rfl (hb hby d9_128) rfl rfl ?_
              show Steps p.tables e below (T104.setTop (mkF m 129 #[.val (.int p0), .val (.int p1), .val (.int p2), .val (.int p3), .val (.int p4), .val (.int p5), .val (.int p6)] [(.ref b104), (.ref b104)])) _
              refine XS.iconst X104.here hx rfl (hb hby d9_129) ?_
              show Steps p.tables e below (T104.setTop (mkF m 130 #[.val (.int p0), .val (.int p1), .val (.int p2), .val (.int p3), .val (.int p4), .val (.int p5), .val (.int p6)] [(.int (5 : Int32)), (.ref b104), (.ref b104)])) _
              refine st105 _ ?_
              show Steps p.tables e below (T105.setTop (mkF m 132 #[.val (.int p0), .val (.int p1), .val (.int p2), .val (.int p3), .val (.int p4), .val (.int p5), .val (.int p6)] [(.ref b105), (.ref b104), (.ref b104)])) _
              refine XS.dup X105.here hx rfl (hb hby d9_132) rfl rfl ?_
              show Steps p.tables e below (T105.setTop (mkF m 133 #[.val (.int p0), .val (.int p1), .val (.int p2), .val (.int p3), .val (.int p4), .val (.int p5), .val (.int p6)] [(.ref b105), (.ref b105), (.ref b104), (.ref b104)])) _
              refine XS.iconst X105.here hx rfl (hb hby d9_133) ?_
              show Steps p.tables e below (T105.setTop (mkF m 134 #[.val (.int p0), .val (.int p1), .val (.int p2), .val (.int p3), .val (.int p4), .val (.int p5), .val (.int p6)] [(.int (0 : Int32)), (.ref b105), (.ref b105), (.ref b104), (.ref b104)])) _
              refine XS.iloadN X105.here hx rfl (hb hby d9_134) rfl ?_
              show Steps p.tables e below (T105.setTop (mkF m 135 #[.val (.int p0), .val (.int p1), .val (.int p2), .val (.int p3), .val (.int p4), .val (.int p5), .val (.int p6)] [(.int p1), (.int (0 : Int32)), (.ref b105), (.ref b105), (.ref b104), (.ref b104)])) _
              refine st107 _ ?_
              show Steps p.tables e below (T107.setTop (mkF m 136 #[.val (.int p0), .val (.int p1), .val (.int p2), .val (.int p3), .val (.int p4), .val (.int p5), .val (.int p6)] [(.ref b105), (.ref b104), (.ref b104)])) _
              refine XS.dup X107.here hx rfl (hb hby d9_136) rfl rfl ?_
              show Steps p.tables e below (T107.setTop (mkF m 137 #[.val (.int p0), .val (.int p1), .val (.int p2), .val (.int p3), .val (.int p4), .val (.int p5), .val (.int p6)] [(.ref b105), (.ref b105), (.ref b104), (.ref b104)])) _
              refine XS.iconst X107.here hx rfl (hb hby d9_137) ?_
              show Steps p.tables e below (T107.setTop (mkF m 138 #[.val (.int p0), .val (.int p1), .val (.int p2), .val (.int p3), .val (.int p4), .val (.int p5), .val (.int p6)] [(.int (1 : Int32)), (.ref b105), (.ref b105), (.ref b104), (.ref b104)])) _
              refine XS.iloadN X107.here hx rfl (hb hby d9_138) rfl ?_
              show Steps p.tables e below (T107.setTop (mkF m 139 #[.val (.int p0), .val (.int p1), .val (.int p2), .val (.int p3), .val (.int p4), .val (.int p5), .val (.int p6)] [(.int p2), (.int (1 : Int32)), (.ref b105), (.ref b105), (.ref b104), (.ref b104)])) _
              refine st109 _ ?_
              show Steps p.tables e below (T109.setTop (mkF m 140 #[.val (.int p0), .val (.int p1), .val (.int p2), .val (.int p3), .val (.int p4), .val (.int p5), .val (.int p6)] [(.ref b105), (.ref b104), (.ref b104)])) _
              refine XS.dup X109.here hx rfl (hb hby d9_140) rfl rfl ?_
              show Steps p.tables e below (T109.setTop (mkF m 141 #[.val (.int p0), .val (.int p1), .val (.int p2), .val (.int p3), .val (.int p4), .val (.int p5), .val (.int p6)] [(.ref b105), (.ref b105), (.ref b104), (.ref b104)])) _
              refine XS.iconst X109.here hx rfl (hb hby d9_141) ?_
              show Steps p.tables e below (T109.setTop (mkF m 142 #[.val (.int p0), .val (.int p1), .val (.int p2), .val (.int p3), .val (.int p4), .val (.int p5), .val (.int p6)] [(.int (2 : Int32)), (.ref b105), (.ref b105), (.ref b104), (.ref b104)])) _
              refine XS.iloadN X109.here hx rfl (hb hby d9_142) rfl ?_
              show Steps p.tables e below (T109.setTop (mkF m 143 #[.val (.int p0), .val (.int p1), .val (.int p2), .val (.int p3), .val (.int p4), .val (.int p5), .val (.int p6)] [(.int p3), (.int (2 : Int32)), (.ref b105), (.ref b105), (.ref b104), (.ref b104)])) _
              refine st111 _ ?_
              show Steps p.tables e below (T111.setTop (mkF m 144 #[.val (.int p0), .val (.int p1), .val (.int p2), .val (.int p3), .val (.int p4), .val (.int p5), .val (.int p6)] [(.ref b105), (.ref b104), (.ref b104)])) _
              refine XS.dup X111.here hx rfl (hb hby d9_144) rfl rfl ?_
              show Steps p.tables e below (T111.setTop (mkF m 145 #[.val (.int p0), .val (.int p1), .val (.int p2), .val (.int p3), .val (.int p4), .val (.int p5), .val (.int p6)] [(.ref b105), (.ref b105), (.ref b104), (.ref b104)])) _
              refine XS.iconst X111.here hx rfl (hb hby d9_145) ?_
              show Steps p.tables e below (T111.setTop (mkF m 146 #[.val (.int p0), .val (.int p1), .val (.int p2), .val (.int p3), .val (.int p4), .val (.int p5), .val (.int p6)] [(.int (3 : Int32)), (.ref b105), (.ref b105), (.ref b104), (.ref b104)])) _
              refine XS.iload X111.here hx rfl (hb hby d9_146) rfl ?_
              show Steps p.tables e below (T111.setTop (mkF m 148 #[.val (.int p0), .val (.int p1), .val (.int p2), .val (.int p3), .val (.int p4), .val (.int p5), .val (.int p6)] [(.int p4), (.int (3 : Int32)), (.ref b105), (.ref b105), (.ref b104), (.ref b104)])) _
              refine st113 _ ?_
              show Steps p.tables e below (T113.setTop (mkF m 149 #[.val (.int p0), .val (.int p1), .val (.int p2), .val (.int p3), .val (.int p4), .val (.int p5), .val (.int p6)] [(.ref b105), (.ref b104), (.ref b104)])) _
              refine XS.dup X113.here hx rfl (hb hby d9_149) rfl rfl ?_
              show Steps p.tables e below (T113.setTop (mkF m 150 #[.val (.int p0), .val (.int p1), .val (.int p2), .val (.int p3), .val (.int p4), .val (.int p5), .val (.int p6)] [(.ref b105), (.ref b105), (.ref b104), (.ref b104)])) _
              refine XS.iconst X113.here hx rfl (hb hby d9_150) ?_
              show Steps p.tables e below (T113.setTop (mkF m 151 #[.val (.int p0), .val (.int p1), .val (.int p2), .val (.int p3), .val (.int p4), .val (.int p5), .val (.int p6)] [(.int (4 : Int32)), (.ref b105), (.ref b105), (.ref b104), (.ref b104)])) _
              refine XS.iload X113.here hx rfl (hb hby d9_151) rfl ?_
              show Steps p.tables e below (T113.setTop (mkF m 153 #[.val (.int p0), .val (.int p1), .val (.int p2), .val (.int p3), .val (.int p4), .val (.int p5), .val (.int p6)] [(.int p5), (.int (4 : Int32)), (.ref b105), (.ref b105), (.ref b104), (.ref b104)])) _
              refine st115 _ ?_
              show Steps p.tables e below (T115.setTop (mkF m 154 #[.val (.int p0), .val (.int p1), .val (.int p2), .val (.int p3), .val (.int p4), .val (.int p5), .val (.int p6)] [(.ref b105), (.ref b104), (.ref b104)])) _
              refine st141.trans ?_
              show Steps p.tables e below (T141.setTop (mkF m 157 #[.val (.int p0), .val (.int p1), .val (.int p2), .val (.int p3), .val (.int p4), .val (.int p5), .val (.int p6)] [(.ref b104)])) _
              jvm_step X141.here [X141.here.top, hx, (hb hby d9_157), X141.method', Bd.returns, Value.isRef, FieldType.isReference]
              first | (intro acts; rw [hr _ acts rfl rfl rfl]) | rw [hr _ _ rfl rfl rfl]
              exact Steps.refl _
            · show Q9t Z p0 p1 p2 p3 p4 p5 p6 cz h0 n0 _ T141.heap _
              exact ⟨b104, _, rfl, N141, Kp141, TS141, hp_b104⟩
          · have K : ∀ target, Steps p.tables e below (s₁.setTop (mkF m 158 #[.val (.int p0), .val (.int p1), .val (.int p2), .val (.int p3), .val (.int p4), .val (.int p5), .val (.int p6)] [])) target → Steps p.tables e below (s₁.setTop (mkF m 122 #[.val (.int p0), .val (.int p1), .val (.int p2), .val (.int p3), .val (.int p4), .val (.int p5), .val (.int p6)] [(.int (5 : Int32)), (.int p0)])) target := by
              intro target kt
              refine XS.icmpYes X0.here hx rfl (pc0 := 122) (pc' := 158) rfl (hb hby d9_122) rfl (feq hc122_103).2 (by decide) (by decide) ?_
              exact kt
            refine Done.of ?_ K
            obtain ⟨T142, h142, X142, e142, E142, A142, D142, -, st142⟩ := newO X0 hx hZ hown (hw _ (List.mem_of_getElem? (i := 52) rfl)) (hw _ (List.mem_of_getElem? (i := 2) rfl)) (hw _ (List.mem_of_getElem? (i := 1) rfl)) e0 (g := (mkF m 158 #[.val (.int p0), .val (.int p1), .val (.int p2), .val (.int p3), .val (.int p4), .val (.int p5), .val (.int p6)] [])) rfl (hb hby d9_158) (by decide) (by decide)
            obtain ⟨b142, g142⟩ : ∃ z, z = h0.size := ⟨_, rfl⟩
            rw [← g142] at A142 D142 st142
            have gnb142 : n0 ≤ b142 := Nat.le_trans Z0 (Nat.le_of_eq g142.symm)
            have Z142 : n0 ≤ h142.size := Nat.le_trans Z0 E142.1
            have szb142 : h0.size ≤ b142 := Nat.le_trans (Keep.refl h0 []).1 (Nat.le_of_eq g142.symm)
            have Kp142 := (Keep.refl h0 []).ext E142
            have F142_value : Fld Z h142 b142 "java/lang/String" "value" "[B" .null := D142 (Or.inr (hw _ (List.mem_of_getElem? (i := 4) rfl))) (ty := (.array .byte)) (by decide)
            have F142_coder : Fld Z h142 b142 "java/lang/String" "coder" "B" (.int (0 : Int32)) := D142 (Or.inr (hw _ (List.mem_of_getElem? (i := 5) rfl))) (ty := .byte) (by decide)
            obtain ⟨T143, h143, k143, X143, e143, E143, A143, st143⟩ := newP X142 hx hZ (hw _ (List.mem_of_getElem? (i := 53) rfl)) e142 (g := (mkF m 164 #[.val (.int p0), .val (.int p1), .val (.int p2), .val (.int p3), .val (.int p4), .val (.int p5), .val (.int p6)] [(.int (6 : Int32)), (.ref b142), (.ref b142)])) rfl (hb hby d9_164) rfl (by decide) (cap := 6) (by decide) (by decide) (by decide) (by decide)
            obtain ⟨b143, g143⟩ : ∃ z, z = h142.size := ⟨_, rfl⟩
            rw [← g143] at A143 st143
            have gnb143 : n0 ≤ b143 := Nat.le_trans Z142 (Nat.le_of_eq g143.symm)
            have Z143 : n0 ≤ h143.size := Nat.le_trans Z142 E143.1
            have szb143 : h0.size ≤ b143 := Nat.le_trans Kp142.1 (Nat.le_of_eq g143.symm)
            have Kp143 := Kp142.ext E143
            have ne_143_1 : b142 ≠ b143 := Nat.ne_of_lt (Nat.lt_of_lt_of_le A142.lt (Nat.le_of_eq g143.symm))
            have V143 : Arv Z h143 b143 k143 .char (6 : Int32) [(.int (0 : Int32)), (.int (0 : Int32)), (.int (0 : Int32)), (.int (0 : Int32)), (.int (0 : Int32)), (.int (0 : Int32))] (.int (0 : Int32)) := (Arv.new A143 (by decide)).pad (pad_rep [] (.int (0 : Int32)) 6)
            obtain ⟨cl144, Ar144, qq144, S144, M144, H144, G144⟩ := id V143
            have hin144 : ¬ ((0 : Int32) < 0 ∨ cl144.slots.size ≤ ((0 : Int32)).toNatClampNeg) := inb_of S144 ⟨by decide, by decide⟩
            obtain ⟨T145, h145, X145, e145, W145, st145⟩ := stC X143 hx hZ e143 Ar144 (j := (0 : Int32)) hin144 (g := (mkF m 169 #[.val (.int p0), .val (.int p1), .val (.int p2), .val (.int p3), .val (.int p4), .val (.int p5), .val (.int p6)] [(.int p1), (.int (0 : Int32)), (.ref b143), (.ref b143), (.ref b142), (.ref b142)])) rfl rfl (hb hby d9_169)
            have V145 : Arv Z h145 b143 k143 .char (6 : Int32) [(.int (p1.toUInt32.toUInt16.toUInt32.toInt32)), (.int (0 : Int32)), (.int (0 : Int32)), (.int (0 : Int32)), (.int (0 : Int32)), (.int (0 : Int32))] _ := Arv.set Ar144 qq144 S144 M144 H144 G144 (fits_nar_char _) W145 0 rfl (Nat.le_of_ble_eq_true rfl)
            have N145 := Fr.snoc X145 N0 gnb143
            have Z145 : n0 ≤ h145.size := Nat.le_trans Z143 (Nat.le_of_eq W145.size.symm)
            have Kp145 := Kp143.wr W145 (Or.inr szb143)
            obtain ⟨cl146, Ar146, qq146, S146, M146, H146, G146⟩ := id V145
            have hin146 : ¬ ((1 : Int32) < 0 ∨ cl146.slots.size ≤ ((1 : Int32)).toNatClampNeg) := inb_of S146 ⟨by decide, by decide⟩
            obtain ⟨T147, h147, X147, e147, W147, st147⟩ := stC X145 hx hZ e145 Ar146 (j := (1 : Int32)) hin146 (g := (mkF m 173 #[.val (.int p0), .val (.int p1), .val (.int p2), .val (.int p3), .val (.int p4), .val (.int p5), .val (.int p6)] [(.int p2), (.int (1 : Int32)), (.ref b143), (.ref b143), (.ref b142), (.ref b142)])) rfl rfl (hb hby d9_173)
            have V147 : Arv Z h147 b143 k143 .char (6 : Int32) [(.int (p1.toUInt32.toUInt16.toUInt32.toInt32)), (.int (p2.toUInt32.toUInt16.toUInt32.toInt32)), (.int (0 : Int32)), (.int (0 : Int32)), (.int (0 : Int32)), (.int (0 : Int32))] _ := Arv.set Ar146 qq146 S146 M146 H146 G146 (fits_nar_char _) W147 1 rfl (Nat.le_of_ble_eq_true rfl)
            have N147 := Fr.snoc X147 N145 gnb143
            have Z147 : n0 ≤ h147.size := Nat.le_trans Z145 (Nat.le_of_eq W147.size.symm)
            have Kp147 := Kp145.wr W147 (Or.inr szb143)
            obtain ⟨cl148, Ar148, qq148, S148, M148, H148, G148⟩ := id V147
            have hin148 : ¬ ((2 : Int32) < 0 ∨ cl148.slots.size ≤ ((2 : Int32)).toNatClampNeg) := inb_of S148 ⟨by decide, by decide⟩
            obtain ⟨T149, h149, X149, e149, W149, st149⟩ := stC X147 hx hZ e147 Ar148 (j := (2 : Int32)) hin148 (g := (mkF m 177 #[.val (.int p0), .val (.int p1), .val (.int p2), .val (.int p3), .val (.int p4), .val (.int p5), .val (.int p6)] [(.int p3), (.int (2 : Int32)), (.ref b143), (.ref b143), (.ref b142), (.ref b142)])) rfl rfl (hb hby d9_177)
            have V149 : Arv Z h149 b143 k143 .char (6 : Int32) [(.int (p1.toUInt32.toUInt16.toUInt32.toInt32)), (.int (p2.toUInt32.toUInt16.toUInt32.toInt32)), (.int (p3.toUInt32.toUInt16.toUInt32.toInt32)), (.int (0 : Int32)), (.int (0 : Int32)), (.int (0 : Int32))] _ := Arv.set Ar148 qq148 S148 M148 H148 G148 (fits_nar_char _) W149 2 rfl (Nat.le_of_ble_eq_true rfl)
            have N149 := Fr.snoc X149 N147 gnb143
            have Z149 : n0 ≤ h149.size := Nat.le_trans Z147 (Nat.le_of_eq W149.size.symm)
            have Kp149 := Kp147.wr W149 (Or.inr szb143)
            obtain ⟨cl150, Ar150, qq150, S150, M150, H150, G150⟩ := id V149
            have hin150 : ¬ ((3 : Int32) < 0 ∨ cl150.slots.size ≤ ((3 : Int32)).toNatClampNeg) := inb_of S150 ⟨by decide, by decide⟩
            obtain ⟨T151, h151, X151, e151, W151, st151⟩ := stC X149 hx hZ e149 Ar150 (j := (3 : Int32)) hin150 (g := (mkF m 182 #[.val (.int p0), .val (.int p1), .val (.int p2), .val (.int p3), .val (.int p4), .val (.int p5), .val (.int p6)] [(.int p4), (.int (3 : Int32)), (.ref b143), (.ref b143), (.ref b142), (.ref b142)])) rfl rfl (hb hby d9_182)
            have V151 : Arv Z h151 b143 k143 .char (6 : Int32) [(.int (p1.toUInt32.toUInt16.toUInt32.toInt32)), (.int (p2.toUInt32.toUInt16.toUInt32.toInt32)), (.int (p3.toUInt32.toUInt16.toUInt32.toInt32)), (.int (p4.toUInt32.toUInt16.toUInt32.toInt32)), (.int (0 : Int32)), (.int (0 : Int32))] _ := Arv.set Ar150 qq150 S150 M150 H150 G150 (fits_nar_char _) W151 3 rfl (Nat.le_of_ble_eq_true rfl)
            have N151 := Fr.snoc X151 N149 gnb143
            have Z151 : n0 ≤ h151.size := Nat.le_trans Z149 (Nat.le_of_eq W151.size.symm)
            have Kp151 := Kp149.wr W151 (Or.inr szb143)
            obtain ⟨cl152, Ar152, qq152, S152, M152, H152, G152⟩ := id V151
            have hin152 : ¬ ((4 : Int32) < 0 ∨ cl152.slots.size ≤ ((4 : Int32)).toNatClampNeg) := inb_of S152 ⟨by decide, by decide⟩
            obtain ⟨T153, h153, X153, e153, W153, st153⟩ := stC X151 hx hZ e151 Ar152 (j := (4 : Int32)) hin152 (g := (mkF m 187 #[.val (.int p0), .val (.int p1), .val (.int p2), .val (.int p3), .val (.int p4), .val (.int p5), .val (.int p6)] [(.int p5), (.int (4 : Int32)), (.ref b143), (.ref b143), (.ref b142), (.ref b142)])) rfl rfl (hb hby d9_187)
            have V153 : Arv Z h153 b143 k143 .char (6 : Int32) [(.int (p1.toUInt32.toUInt16.toUInt32.toInt32)), (.int (p2.toUInt32.toUInt16.toUInt32.toInt32)), (.int (p3.toUInt32.toUInt16.toUInt32.toInt32)), (.int (p4.toUInt32.toUInt16.toUInt32.toInt32)), (.int (p5.toUInt32.toUInt16.toUInt32.toInt32)), (.int (0 : Int32))] _ := Arv.set Ar152 qq152 S152 M152 H152 G152 (fits_nar_char _) W153 4 rfl (Nat.le_of_ble_eq_true rfl)
            have N153 := Fr.snoc X153 N151 gnb143
            have Z153 : n0 ≤ h153.size := Nat.le_trans Z151 (Nat.le_of_eq W153.size.symm)
            have Kp153 := Kp151.wr W153 (Or.inr szb143)
            obtain ⟨cl154, Ar154, qq154, S154, M154, H154, G154⟩ := id V153
            have hin154 : ¬ ((5 : Int32) < 0 ∨ cl154.slots.size ≤ ((5 : Int32)).toNatClampNeg) := inb_of S154 ⟨by decide, by decide⟩
            obtain ⟨T155, h155, X155, e155, W155, st155⟩ := stC X153 hx hZ e153 Ar154 (j := (5 : Int32)) hin154 (g := (mkF m 192 #[.val (.int p0), .val (.int p1), .val (.int p2), .val (.int p3), .val (.int p4), .val (.int p5), .val (.int p6)] [(.int p6), (.int (5 : Int32)), (.ref b143), (.ref b143), (.ref b142), (.ref b142)])) rfl rfl (hb hby d9_192)
            have V155 : Arv Z h155 b143 k143 .char (6 : Int32) [(.int (p1.toUInt32.toUInt16.toUInt32.toInt32)), (.int (p2.toUInt32.toUInt16.toUInt32.toInt32)), (.int (p3.toUInt32.toUInt16.toUInt32.toInt32)), (.int (p4.toUInt32.toUInt16.toUInt32.toInt32)), (.int (p5.toUInt32.toUInt16.toUInt32.toInt32)), (.int (p6.toUInt32.toUInt16.toUInt32.toInt32))] _ := Arv.set Ar154 qq154 S154 M154 H154 G154 (fits_nar_char _) W155 5 rfl (Nat.le_of_ble_eq_true rfl)
            have N155 := Fr.snoc X155 N153 gnb143
            have Z155 : n0 ≤ h155.size := Nat.le_trans Z153 (Nat.le_of_eq W155.size.symm)
            have Kp155 := Kp153.wr W155 (Or.inr szb143)
            have hp_b142 : ∀ c ∈ ([(p1.toUInt32.toUInt16.toUInt32.toInt32), (p2.toUInt32.toUInt16.toUInt32.toInt32), (p3.toUInt32.toUInt16.toUInt32.toInt32), (p4.toUInt32.toUInt16.toUInt32.toInt32), (p5.toUInt32.toUInt16.toUInt32.toInt32), (p6.toUInt32.toUInt16.toUInt32.toInt32)] : List Int32), ¬ c < 0 ∧ ¬ (255 : Int32) < c := (List.forall_mem_cons.mpr ⟨(own_pc hp1), (List.forall_mem_cons.mpr ⟨(own_pc hp2), (List.forall_mem_cons.mpr ⟨(own_pc hp3), (List.forall_mem_cons.mpr ⟨(own_pc hp4), (List.forall_mem_cons.mpr ⟨(own_pc hp5), (List.forall_mem_cons.mpr ⟨(own_pc hp6), (fun _ hx => nomatch hx)⟩)⟩)⟩)⟩)⟩)⟩)
            have cy156 := (A142.ext E143)
            have cy157 := (cy156.wr W145)
            have cy158 := (cy157.wr W147)
            have cy159 := (cy158.wr W149)
            have cy160 := (cy159.wr W151)
            have cy161 := (cy160.wr W153)
            have cy162 := (cy161.wr W155)
            have cy163 := (F142_value.ext E143)
            have cy164 := (cy163.other W145 (Or.inl ne_143_1))
            have cy165 := (cy164.other W147 (Or.inl ne_143_1))
            have cy166 := (cy165.other W149 (Or.inl ne_143_1))
            have cy167 := (cy166.other W151 (Or.inl ne_143_1))
            have cy168 := (cy167.other W153 (Or.inl ne_143_1))
            have cy169 := (cy168.other W155 (Or.inl ne_143_1))
            have cy170 := (F142_coder.ext E143)
            have cy171 := (cy170.other W145 (Or.inl ne_143_1))
            have cy172 := (cy171.other W147 (Or.inl ne_143_1))
            have cy173 := (cy172.other W149 (Or.inl ne_143_1))
            have cy174 := (cy173.other W151 (Or.inl ne_143_1))
            have cy175 := (cy174.other W153 (Or.inl ne_143_1))
            have cy176 := (cy175.other W155 (Or.inl ne_143_1))
            have cy177 := (SCS.ext E142)
            have cy178 := (cy177.ext E143)
            have cy179 := (cy178.wr W145)
            have cy180 := (cy179.wr W147)
            have cy181 := (cy180.wr W149)
            have cy182 := (cy181.wr W151)
            have cy183 := (cy182.wr W153)
            have cy184 := (cy183.wr W155)
            obtain ⟨_, _, ⟨T185, L185, k185, n185⟩, -, X185, ⟨Lc185, hQ185, l185, y185, z185⟩, st185⟩ := X155.specialBack hx (y := (⟨"java/lang/String", "<init>", "([C)V"⟩ : MethodName)) rfl hown (mvT hZ (hw _ (List.mem_of_getElem? (i := 54) rfl))) (mvT hZ (hw _ (List.mem_of_getElem? (i := 55) rfl))) (mvT hZ (hw _ (List.mem_of_getElem? (i := 56) rfl))) (by decide) (StrChars.Road.backV (W := 1) hZ hws (kI := 4) (hw _ (List.mem_of_getElem? (i := 2) rfl)) (cs := ([(p1.toUInt32.toUInt16.toUInt32.toInt32), (p2.toUInt32.toUInt16.toUInt32.toInt32), (p3.toUInt32.toUInt16.toUInt32.toInt32), (p4.toUInt32.toUInt16.toUInt32.toInt32), (p5.toUInt32.toUInt16.toUInt32.toInt32), (p6.toUInt32.toUInt16.toUInt32.toInt32)] : List Int32)) (bs := ([(p1.toUInt32.toUInt16.toUInt32.toInt32), (p2.toUInt32.toUInt16.toUInt32.toInt32), (p3.toUInt32.toUInt16.toUInt32.toInt32), (p4.toUInt32.toUInt16.toUInt32.toInt32), (p5.toUInt32.toUInt16.toUInt32.toInt32), (p6.toUInt32.toUInt16.toUInt32.toInt32)] : List Int32).map (fun c => c.toInt8.toInt32)) (N := (6 : Int32)) (n := 6) (n0 := n0) gnb142 Z155 cy162 cy169 cy176 V155 cy184 hcs rfl rfl (by decide) (by decide) hp_b142 rfl (by decide) (by decide)) (g := (mkF m 193 #[.val (.int p0), .val (.int p1), .val (.int p2), .val (.int p3), .val (.int p4), .val (.int p5), .val (.int p6)] [(.ref b143), (.ref b142), (.ref b142)])) rfl (by rw [hml]; rfl) (Steps.refl _) (a := b142) (argsL := [(.ref b143)]) (rest := [(.ref b142)]) (lenOf pd_3 rfl) rfl (by show 2 * 0 + _ ≤ _; exact Nat.le_of_eq rfl) (hb hby d9_193) (fun _ _ => ⟨rfl, e155, (by decide : 2 + 1 ≤ _), (by decide : 10 + 6 ≤ _)⟩)
            dsimp only [Pt.U, Pt.locs, Pt.cells, Pt.slots] at X185 l185 y185 z185 st185 hQ185
            rw [l185, y185, z185] at X185
            obtain ⟨rfl, N185q, K185q, E185a, C185a, t185, kb185, -, -, -, V185a, A185a⟩ := hQ185
            have N185 := Fr.app N155 N185q
            have Z185 : n0 ≤ T185.heap.size := Nat.le_trans Z155 K185q.1
            have Kp185 := Kp155.trans K185q (fun x hx => Or.inr (by cases List.mem_singleton.mp hx; exact szb142))
            have TS185 : own_Str Z T185.heap b142 ([(p1.toUInt32.toUInt16.toUInt32.toInt32), (p2.toUInt32.toUInt16.toUInt32.toInt32), (p3.toUInt32.toUInt16.toUInt32.toInt32), (p4.toUInt32.toUInt16.toUInt32.toInt32), (p5.toUInt32.toUInt16.toUInt32.toInt32), (p6.toUInt32.toUInt16.toUInt32.toInt32)] : List Int32) := ⟨t185, kb185, _, _, E185a, V185a, C185a, A185a, Or.inl ⟨rfl, rfl, rfl, fun c hc => (hp_b142 c hc).2⟩, own_up hp_b142, Nat.le_of_ble_eq_true rfl⟩
            obtain ⟨fs, hr, hrun, hended, hW, hsame⟩ := X185.leave (v := some (.ref b142)) (fun h => by rw [Bd.returns] at h; cases h)
            refine ⟨_, _, ?_, hrun, hended, _, _, rfl, ?_, ⟨_, rfl⟩, hW, hsame.mono (by decide) (by decide)⟩
            · show Steps p.tables e below (s₁.setTop (mkF m 158 #[.val (.int p0), .val (.int p1), .val (.int p2), .val (.int p3), .val (.int p4), .val (.int p5), .val (.int p6)] [])) _
              refine st142 _ ?_
              show Steps p.tables e below (T142.setTop (mkF m 161 #[.val (.int p0), .val (.int p1), .val (.int p2), .val (.int p3), .val (.int p4), .val (.int p5), .val (.int p6)] [(.ref b142)])) _
              refine XS.dup X142.here hx rfl (hb hby d9_161) rfl rfl ?_
              show Steps p.tables e below (T142.setTop (mkF m 162 #[.val (.int p0), .val (.int p1), .val (.int p2), .val (.int p3), .val (.int p4), .val (.int p5), .val (.int p6)] [(.ref b142), (.ref b142)])) _
              refine XS.bipush X142.here hx rfl (hb hby d9_162) ?_
              show Steps p.tables e below (T142.setTop (mkF m 164 #[.val (.int p0), .val (.int p1), .val (.int p2), .val (.int p3), .val (.int p4), .val (.int p5), .val (.int p6)] [(.int (6 : Int32)), (.ref b142), (.ref b142)])) _
              refine st143 _ ?_
              show Steps p.tables e below (T143.setTop (mkF m 166 #[.val (.int p0), .val (.int p1), .val (.int p2), .val (.int p3), .val (.int p4), .val (.int p5), .val (.int p6)] [(.ref b143), (.ref b142), (.ref b142)])) _
              refine XS.dup X143.here hx rfl (hb hby d9_166) rfl rfl ?_
              show Steps p.tables e below (T143.setTop (mkF m 167 #[.val (.int p0), .val (.int p1), .val (.int p2), .val (.int p3), .val (.int p4), .val (.int p5), .val (.int p6)] [(.ref b143), (.ref b143), (.ref b142), (.ref b142)])) _
              refine XS.iconst X143.here hx rfl (hb hby d9_167) ?_
              show Steps p.tables e below (T143.setTop (mkF m 168 #[.val (.int p0), .val (.int p1), .val (.int p2), .val (.int p3), .val (.int p4), .val (.int p5), .val (.int p6)] [(.int (0 : Int32)), (.ref b143), (.ref b143), (.ref b142), (.ref b142)])) _
              refine XS.iloadN X143.here hx rfl (hb hby d9_168) rfl ?_
              show Steps p.tables e below (T143.setTop (mkF m 169 #[.val (.int p0), .val (.int p1), .val (.int p2), .val (.int p3), .val (.int p4), .val (.int p5), .val (.int p6)] [(.int p1), (.int (0 : Int32)), (.ref b143), (.ref b143), (.ref b142), (.ref b142)])) _
              refine st145 _ ?_
              show Steps p.tables e below (T145.setTop (mkF m 170 #[.val (.int p0), .val (.int p1), .val (.int p2), .val (.int p3), .val (.int p4), .val (.int p5), .val (.int p6)] [(.ref b143), (.ref b142), (.ref b142)])) _
              refine XS.dup X145.here hx rfl (hb hby d9_170) rfl rfl ?_
              show Steps p.tables e below (T145.setTop (mkF m 171 #[.val (.int p0), .val (.int p1), .val (.int p2), .val (.int p3), .val (.int p4), .val (.int p5), .val (.int p6)] [(.ref b143), (.ref b143), (.ref b142), (.ref b142)])) _
              refine XS.iconst X145.here hx rfl (hb hby d9_171) ?_
              show Steps p.tables e below (T145.setTop (mkF m 172 #[.val (.int p0), .val (.int p1), .val (.int p2), .val (.int p3), .val (.int p4), .val (.int p5), .val (.int p6)] [(.int (1 : Int32)), (.ref b143), (.ref b143), (.ref b142), (.ref b142)])) _
              refine XS.iloadN X145.here hx rfl (hb hby d9_172) rfl ?_
              show Steps p.tables e below (T145.setTop (mkF m 173 #[.val (.int p0), .val (.int p1), .val (.int p2), .val (.int p3), .val (.int p4), .val (.int p5), .val (.int p6)] [(.int p2), (.int (1 : Int32)), (.ref b143), (.ref b143), (.ref b142), (.ref b142)])) _
              refine st147 _ ?_
              show Steps p.tables e below (T147.setTop (mkF m 174 #[.val (.int p0), .val (.int p1), .val (.int p2), .val (.int p3), .val (.int p4), .val (.int p5), .val (.int p6)] [(.ref b143), (.ref b142), (.ref b142)])) _
              refine XS.dup X147.here hx rfl (hb hby d9_174) rfl rfl ?_
              show Steps p.tables e below (T147.setTop (mkF m 175 #[.val (.int p0), .val (.int p1), .val (.int p2), .val (.int p3), .val (.int p4), .val (.int p5), .val (.int p6)] [(.ref b143), (.ref b143), (.ref b142), (.ref b142)])) _
              refine XS.iconst X147.here hx rfl (hb hby d9_175) ?_
              show Steps p.tables e below (T147.setTop (mkF m 176 #[.val (.int p0), .val (.int p1), .val (.int p2), .val (.int p3), .val (.int p4), .val (.int p5), .val (.int p6)] [(.int (2 : Int32)), (.ref b143), (.ref b143), (.ref b142), (.ref b142)])) _
              refine XS.iloadN X147.here hx rfl (hb hby d9_176) rfl ?_
              show Steps p.tables e below (T147.setTop (mkF m 177 #[.val (.int p0), .val (.int p1), .val (.int p2), .val (.int p3), .val (.int p4), .val (.int p5), .val (.int p6)] [(.int p3), (.int (2 : Int32)), (.ref b143), (.ref b143), (.ref b142), (.ref b142)])) _
              refine st149 _ ?_
              show Steps p.tables e below (T149.setTop (mkF m 178 #[.val (.int p0), .val (.int p1), .val (.int p2), .val (.int p3), .val (.int p4), .val (.int p5), .val (.int p6)] [(.ref b143), (.ref b142), (.ref b142)])) _
              refine XS.dup X149.here hx rfl (hb hby d9_178) rfl rfl ?_
              show Steps p.tables e below (T149.setTop (mkF m 179 #[.val (.int p0), .val (.int p1), .val (.int p2), .val (.int p3), .val (.int p4), .val (.int p5), .val (.int p6)] [(.ref b143), (.ref b143), (.ref b142), (.ref b142)])) _
              refine XS.iconst X149.here hx rfl (hb hby d9_179) ?_
              show Steps p.tables e below (T149.setTop (mkF m 180 #[.val (.int p0), .val (.int p1), .val (.int p2), .val (.int p3), .val (.int p4), .val (.int p5), .val (.int p6)] [(.int (3 : Int32)), (.ref b143), (.ref b143), (.ref b142), (.ref b142)])) _
              refine XS.iload X149.here hx rfl (hb hby d9_180) rfl ?_
              show Steps p.tables e below (T149.setTop (mkF m 182 #[.val (.int p0), .val (.int p1), .val (.int p2), .val (.int p3), .val (.int p4), .val (.int p5), .val (.int p6)] [(.int p4), (.int (3 : Int32)), (.ref b143), (.ref b143), (.ref b142), (.ref b142)])) _
              refine st151 _ ?_
              show Steps p.tables e below (T151.setTop (mkF m 183 #[.val (.int p0), .val (.int p1), .val (.int p2), .val (.int p3), .val (.int p4), .val (.int p5), .val (.int p6)] [(.ref b143), (.ref b142), (.ref b142)])) _
              refine XS.dup X151.here hx rfl (hb hby d9_183) rfl rfl ?_
              show Steps p.tables e below (T151.setTop (mkF m 184 #[.val (.int p0), .val (.int p1), .val (.int p2), .val (.int p3), .val (.int p4), .val (.int p5), .val (.int p6)] [(.ref b143), (.ref b143), (.ref b142), (.ref b142)])) _
              refine XS.iconst X151.here hx rfl (hb hby d9_184) ?_
              show Steps p.tables e below (T151.setTop (mkF m 185 #[.val (.int p0), .val (.int p1), .val (.int p2), .val (.int p3), .val (.int p4), .val (.int p5), .val (.int p6)] [(.int (4 : Int32)), (.ref b143), (.ref b143), (.ref b142), (.ref b142)])) _
              refine XS.iload X151.here hx rfl (hb hby d9_185) rfl ?_
              show Steps p.tables e below (T151.setTop (mkF m 187 #[.val (.int p0), .val (.int p1), .val (.int p2), .val (.int p3), .val (.int p4), .val (.int p5), .val (.int p6)] [(.int p5), (.int (4 : Int32)), (.ref b143), (.ref b143), (.ref b142), (.ref b142)])) _
              refine st153 _ ?_
              show Steps p.tables e below (T153.setTop (mkF m 188 #[.val (.int p0), .val (.int p1), .val (.int p2), .val (.int p3), .val (.int p4), .val (.int p5), .val (.int p6)] [(.ref b143), (.ref b142), (.ref b142)])) _
              refine XS.dup X153.here hx rfl (hb hby d9_188) rfl rfl ?_
              show Steps p.tables e below (T153.setTop (mkF m 189 #[.val (.int p0), .val (.int p1), .val (.int p2), .val (.int p3), .val (.int p4), .val (.int p5), .val (.int p6)] [(.ref b143), (.ref b143), (.ref b142), (.ref b142)])) _
              refine XS.iconst X153.here hx rfl (hb hby d9_189) ?_
              show Steps p.tables e below (T153.setTop (mkF m 190 #[.val (.int p0), .val (.int p1), .val (.int p2), .val (.int p3), .val (.int p4), .val (.int p5), .val (.int p6)] [(.int (5 : Int32)), (.ref b143), (.ref b143), (.ref b142), (.ref b142)])) _
              refine XS.iload X153.here hx rfl (hb hby d9_190) rfl ?_
              show Steps p.tables e below (T153.setTop (mkF m 192 #[.val (.int p0), .val (.int p1), .val (.int p2), .val (.int p3), .val (.int p4), .val (.int p5), .val (.int p6)] [(.int p6), (.int (5 : Int32)), (.ref b143), (.ref b143), (.ref b142), (.ref b142)])) _
              refine st155 _ ?_
              show Steps p.tables e below (T155.setTop (mkF m 193 #[.val (.int p0), .val (.int p1), .val (.int p2), .val (.int p3), .val (.int p4), .val (.int p5), .val (.int p6)] [(.ref b143), (.ref b142), (.ref b142)])) _
              refine st185.trans ?_
              show Steps p.tables e below (T185.setTop (mkF m 196 #[.val (.int p0), .val (.int p1), .val (.int p2), .val (.int p3), .val (.int p4), .val (.int p5), .val (.int p6)] [(.ref b142)])) _
              jvm_step X185.here [X185.here.top, hx, (hb hby d9_196), X185.method', Bd.returns, Value.isRef, FieldType.isReference]
              first | (intro acts; rw [hr _ acts rfl rfl rfl]) | rw [hr _ _ rfl rfl rfl]
              exact Steps.refl _
            · show Q9t Z p0 p1 p2 p3 p4 p5 p6 cz h0 n0 _ T185.heap _
              exact ⟨b142, _, rfl, N185, Kp185, TS185, hp_b142⟩
theorem d19_0 : decode jdk_32_method_1_code 0 = .ok (.getstatic 1, 3) := by decide +kernel
theorem d19_3 : decode jdk_32_method_1_code 3 = .ok (.astore_n 0, 1) := by decide +kernel
theorem d19_4 : decode jdk_32_method_1_code 4 = .ok (.aload_n 0, 1) := by decide +kernel
theorem d19_5 : decode jdk_32_method_1_code 5 = .ok (.areturn, 1) := by decide +kernel
theorem pn_19 : plainName "java/util/Optional" = true := by first | (simp [plainName, overriddenIn]; done) | decide +kernel
theorem ef_19 (m : MethodId)   : entryFrame m #[] 1 = mkF m 0 #[.unset] [] := by first | (simp [entryFrame, mkF, argsToLocals, Value.category]; done) | rfl
def Q19 (Z : State) (em : Addr) (h0 : Heap) (n0 : Nat) (v : Option Value) (h : Heap) (L : List Loc) : Prop := v = some (.ref em) ∧ Fr n0 L ∧ h = h0
set_option maxRecDepth 65536 in
set_option maxHeartbeats 40000000 in
theorem rm19 (l : Launch) (Z : State) (a0 : Array Value) (hw : ∀ d ∈ tables_1, d.before a0 Z = true) (ws : List Jvm.Cond) (em : Addr) (h0 : Heap) (n0 : Nat) (Z0 : n0 ≤ h0.size) (SE : Sta Z h0 "java/util/Optional" "EMPTY" "Ljava/util/Optional;" (.ref em)) :
    MetFree l (⟨"java/util/Optional", "empty", "()Ljava/util/Optional;"⟩ : MethodName) (head1 (Jvm.Cond.code (⟨"java/util/Optional", "empty", "()Ljava/util/Optional;"⟩ : MethodName) jdk_32_method_1_code 1 (some (.object "java/util/Optional")) :: ws) ({ frames := 0, cells := 0, slots := 0, locals := 0 } : Room)) (fun a U => a = #[] ∧ Z.Warmed39 U.vm ∧ U.heap = h0) (fun _ _ _ _ _ => True) (fun _ U o U' => ∃ v L, o = .returned v ∧ Q19 Z em h0 n0 v U'.heap L ∧ FrameEnd U o U' L ({ frames := 0, cells := 0, slots := 0, locals := 0 } : Room).cells ({ frames := 0, cells := 0, slots := 0, locals := 0 } : Room).slots) := by
  refine MetFree.of_bodySF (plainFor_of_name pn_19) hisR ?_
  intro p e s m args below meth c s₁ Bd hml0 hP hK
  obtain ⟨rfl, hZ, hh⟩ := hP
  have hx := Bd.exec
  have hby := Bd.bytes
  have hml : c.maxLocals = 1 := hml0
  have hown : s.vm.findClass "java/util/Optional" = some m.cls := findClass_of_methodNamed Bd.named
  have hnm := (name_of_methodNamed Bd.named Bd.method).1
  have X0 : Stand p l e ({ frames := 0, cells := 0, slots := 0, locals := 0 } : Room) s m #[] below meth c s₁ [] 0 0 := Stand.of_body Bd
  have e0 : s₁.heap = h0 := by rw [← hh, Bd.state]; rfl
  have N0 := Fr.nil n0
  have pre0 : ∀ t, Steps p.tables e below (s₁.setTop (mkF m 0 #[.unset] [])) t → Steps p.tables e below (s₁.setTop (entryFrame m #[] 1)) t := fun t k => castTop (ef_19 m ) k
  show Done p e below _ _
  refine Done.of ?_ pre0
  obtain ⟨T1, X1, e1, st1⟩ := getS2 X0 hx hZ hown (host := "") (Or.inl (hw _ (List.mem_of_getElem? (i := 91) rfl))) Via.refl e0 SE (g := (mkF m 0 #[.unset] [])) rfl (hb hby d19_0)
  obtain ⟨fs, hr, hrun, hended, hW, hsame⟩ := X1.leave (v := some (.ref em)) (fun h => by rw [Bd.returns] at h; cases h)
  refine ⟨_, _, ?_, hrun, hended, _, _, rfl, ?_, ⟨_, rfl⟩, hW, hsame.mono (by decide) (by decide)⟩
  · show Steps p.tables e below (s₁.setTop (mkF m 0 #[.unset] [])) _
    refine st1 _ ?_
    show Steps p.tables e below (T1.setTop (mkF m 3 #[.unset] [(.ref em)])) _
    refine XS.astoreN X1.here hx rfl (hb hby d19_3) rfl rfl (l' := #[.val (.ref em)]) rfl ?_
    show Steps p.tables e below (T1.setTop (mkF m 4 #[.val (.ref em)] [])) _
    refine XS.aloadN X1.here hx rfl (hb hby d19_4) rfl rfl ?_
    show Steps p.tables e below (T1.setTop (mkF m 5 #[.val (.ref em)] [(.ref em)])) _
    jvm_step X1.here [X1.here.top, hx, (hb hby d19_5), X1.method', Bd.returns, Value.isRef, FieldType.isReference]
    first | (intro acts; rw [hr _ acts rfl rfl rfl]) | rw [hr _ _ rfl rfl rfl]
    exact Steps.refl _
  · show Q19 Z  em h0 n0 _ T1.heap _
    rw [e1]
    refine ⟨?_, N0, rfl⟩
    rfl
theorem d22_0 : decode jdk_31_method_10_code 0 = .ok (.aload_n 0, 1) := by decide +kernel
theorem d22_1 : decode jdk_31_method_10_code 1 = .ok (.ifnonnull 11, 3) := by decide +kernel
theorem d22_12 : decode jdk_31_method_10_code 12 = .ok (.aload_n 0, 1) := by decide +kernel
theorem d22_13 : decode jdk_31_method_10_code 13 = .ok (.areturn, 1) := by decide +kernel
theorem pn_22 : plainName "java/util/Objects" = true := by first | (simp [plainName, overriddenIn]; done) | decide +kernel
theorem ef_22 (m : MethodId) (u0 : Addr)  : entryFrame m #[(.ref u0)] 1 = mkF m 0 #[.val (.ref u0)] [] := by first | (simp [entryFrame, mkF, argsToLocals, Value.category]; done) | rfl
def Q22 (Z : State) (u0 : Addr) (h0 : Heap) (n0 : Nat) (v : Option Value) (h : Heap) (L : List Loc) : Prop := v = some (.ref u0) ∧ Fr n0 L ∧ h = h0
set_option maxRecDepth 65536 in
set_option maxHeartbeats 40000000 in
theorem rm22 (l : Launch) (Z : State) (a0 : Array Value) (hw : ∀ d ∈ tables_1, d.before a0 Z = true) (ws : List Jvm.Cond) (u0 : Addr) (h0 : Heap) (n0 : Nat) (Z0 : n0 ≤ h0.size) :
    MetFree l (⟨"java/util/Objects", "requireNonNull", "(Ljava/lang/Object;)Ljava/lang/Object;"⟩ : MethodName) (head1 (Jvm.Cond.code (⟨"java/util/Objects", "requireNonNull", "(Ljava/lang/Object;)Ljava/lang/Object;"⟩ : MethodName) jdk_31_method_10_code 1 (some (.object "java/lang/Object")) :: ws) ({ frames := 0, cells := 0, slots := 0, locals := 0 } : Room)) (fun a U => a = #[(.ref u0)] ∧ Z.Warmed39 U.vm ∧ U.heap = h0) (fun _ _ _ _ _ => True) (fun _ U o U' => ∃ v L, o = .returned v ∧ Q22 Z u0 h0 n0 v U'.heap L ∧ FrameEnd U o U' L ({ frames := 0, cells := 0, slots := 0, locals := 0 } : Room).cells ({ frames := 0, cells := 0, slots := 0, locals := 0 } : Room).slots) := by
  refine MetFree.of_bodySF (plainFor_of_name pn_22) hisR ?_
  intro p e s m args below meth c s₁ Bd hml0 hP hK
  obtain ⟨rfl, hZ, hh⟩ := hP
  have hx := Bd.exec
  have hby := Bd.bytes
  have hml : c.maxLocals = 1 := hml0
  have hown : s.vm.findClass "java/util/Objects" = some m.cls := findClass_of_methodNamed Bd.named
  have hnm := (name_of_methodNamed Bd.named Bd.method).1
  have X0 : Stand p l e ({ frames := 0, cells := 0, slots := 0, locals := 0 } : Room) s m #[(.ref u0)] below meth c s₁ [] 0 0 := Stand.of_body Bd
  have e0 : s₁.heap = h0 := by rw [← hh, Bd.state]; rfl
  have N0 := Fr.nil n0
  have pre0 : ∀ t, Steps p.tables e below (s₁.setTop (mkF m 0 #[.val (.ref u0)] [])) t → Steps p.tables e below (s₁.setTop (entryFrame m #[(.ref u0)] 1)) t := fun t k => castTop (ef_22 m u0) k
  show Done p e below _ _
  refine Done.of ?_ pre0
  obtain ⟨fs, hr, hrun, hended, hW, hsame⟩ := X0.leave (v := some (.ref u0)) (fun h => by rw [Bd.returns] at h; cases h)
  refine ⟨_, _, ?_, hrun, hended, _, _, rfl, ?_, ⟨_, rfl⟩, hW, hsame.mono (by decide) (by decide)⟩
  · show Steps p.tables e below (s₁.setTop (mkF m 0 #[.val (.ref u0)] [])) _
    refine XS.aloadN X0.here hx rfl (hb hby d22_0) rfl rfl ?_
    show Steps p.tables e below (s₁.setTop (mkF m 1 #[.val (.ref u0)] [(.ref u0)])) _
    refine XS.ifnonnullYes X0.here hx rfl (pc0 := 1) (pc' := 12) rfl (hb hby d22_1) rfl (by decide) (by decide) ?_
    show Steps p.tables e below (s₁.setTop (mkF m 12 #[.val (.ref u0)] [])) _
    refine XS.aloadN X0.here hx rfl (hb hby d22_12) rfl rfl ?_
    show Steps p.tables e below (s₁.setTop (mkF m 13 #[.val (.ref u0)] [(.ref u0)])) _
    jvm_step X0.here [X0.here.top, hx, (hb hby d22_13), X0.method', Bd.returns, Value.isRef, FieldType.isReference]
    first | (intro acts; rw [hr _ acts rfl rfl rfl]) | rw [hr _ _ rfl rfl rfl]
    exact Steps.refl _
  · show Q22 Z u0  h0 n0 _ s₁.heap _
    rw [e0]
    refine ⟨?_, N0, rfl⟩
    rfl
theorem d23_0 : decode jdk_32_method_2_code 0 = .ok (.aload_n 0, 1) := by decide +kernel
theorem d23_1 : decode jdk_32_method_2_code 1 = .ok (.invokespecial 7, 3) := by decide +kernel
theorem d23_4 : decode jdk_32_method_2_code 4 = .ok (.aload_n 0, 1) := by decide +kernel
theorem d23_5 : decode jdk_32_method_2_code 5 = .ok (.aload_n 1, 1) := by decide +kernel
theorem d23_6 : decode jdk_32_method_2_code 6 = .ok (.putfield 13, 3) := by decide +kernel
theorem d23_9 : decode jdk_32_method_2_code 9 = .ok (.return_, 1) := by decide +kernel
theorem pn_23 : plainName "java/util/Optional" = true := by first | (simp [plainName, overriddenIn]; done) | decide +kernel
theorem ef_23 (m : MethodId) (u0 : Addr) (u1 : Addr)  : entryFrame m #[(.ref u0), (.ref u1)] 2 = mkF m 0 #[.val (.ref u0), .val (.ref u1)] [] := by first | (simp [entryFrame, mkF, argsToLocals, Value.category]; done) | rfl
def Q23 (Z : State) (u0 : Addr) (u1 : Addr) (h0 : Heap) (n0 : Nat) (v : Option Value) (h : Heap) (L : List Loc) : Prop := v = none ∧ Fr n0 L ∧ Keep h0 h [u0] ∧ Exa Z h u0 "java/util/Optional" ∧ Fld Z h u0 "java/util/Optional" "value" "Ljava/lang/Object;" (.ref u1)
set_option maxRecDepth 65536 in
set_option maxHeartbeats 40000000 in
theorem rm23 (l : Launch) (Z : State) (a0 : Array Value) (hw : ∀ d ∈ tables_1, d.before a0 Z = true) (ws : List Jvm.Cond) (u0 : Addr) (u1 : Addr) (h0 : Heap) (n0 : Nat) (Z0 : n0 ≤ h0.size) (E0 : Exa Z h0 u0 "java/util/Optional") (g0 : n0 ≤ u0) (F_value : Fld Z h0 u0 "java/util/Optional" "value" "Ljava/lang/Object;" .null) :
    MetFree l (⟨"java/util/Optional", "<init>", "(Ljava/lang/Object;)V"⟩ : MethodName) (head1 (Jvm.Cond.code (⟨"java/util/Optional", "<init>", "(Ljava/lang/Object;)V"⟩ : MethodName) jdk_32_method_2_code 2 none :: ws) ({ frames := 1, cells := 0, slots := 0, locals := 12 } : Room)) (fun a U => a = #[(.ref u0), (.ref u1)] ∧ Z.Warmed39 U.vm ∧ U.heap = h0) (fun _ _ _ _ _ => True) (fun _ U o U' => ∃ v L, o = .returned v ∧ Q23 Z u0 u1 h0 n0 v U'.heap L ∧ FrameEnd U o U' L ({ frames := 1, cells := 0, slots := 0, locals := 12 } : Room).cells ({ frames := 1, cells := 0, slots := 0, locals := 12 } : Room).slots) := by
  refine MetFree.of_bodySF (plainFor_of_name pn_23) hisR ?_
  intro p e s m args below meth c s₁ Bd hml0 hP hK
  obtain ⟨rfl, hZ, hh⟩ := hP
  have hx := Bd.exec
  have hby := Bd.bytes
  have hml : c.maxLocals = 2 := hml0
  have hown : s.vm.findClass "java/util/Optional" = some m.cls := findClass_of_methodNamed Bd.named
  have hnm := (name_of_methodNamed Bd.named Bd.method).1
  have X0 : Stand p l e ({ frames := 1, cells := 0, slots := 0, locals := 12 } : Room) s m #[(.ref u0), (.ref u1)] below meth c s₁ [] 0 0 := Stand.of_body Bd
  have e0 : s₁.heap = h0 := by rw [← hh, Bd.state]; rfl
  have N0 := Fr.nil n0
  have pre0 : ∀ t, Steps p.tables e below (s₁.setTop (mkF m 0 #[.val (.ref u0), .val (.ref u1)] [])) t → Steps p.tables e below (s₁.setTop (entryFrame m #[(.ref u0), (.ref u1)] 2)) t := fun t k => castTop (ef_23 m u0 u1) k
  show Done p e below _ _
  refine Done.of ?_ pre0
  obtain ⟨T1, X1, e1, st1⟩ := initO X0 hx hZ hown (hw _ (List.mem_of_getElem? (i := 127) rfl)) (hw _ (List.mem_of_getElem? (i := 62) rfl)) (hw _ (List.mem_of_getElem? (i := 63) rfl)) e0 (g := (mkF m 1 #[.val (.ref u0), .val (.ref u1)] [(.ref u0)])) rfl (by rw [hml]; rfl) rfl (hb hby d23_1) (by decide) (W := 0) (by show 2 * 0 + _ ≤ _; exact Nat.le_of_eq rfl) (by decide)
  obtain ⟨T2, h2, X2, e2, W2, st2⟩ := putF X1 hx hZ hown (host := "") (Or.inl (hw _ (List.mem_of_getElem? (i := 128) rfl))) Via.refl e1 F_value E0 (Or.inr ⟨(hw _ (List.mem_of_getElem? (i := 129) rfl)), rfl, hnm⟩) (hw _ (List.mem_of_getElem? (i := 118) rfl)) (ty := (.object "java/lang/Object")) (by decide) rfl rfl (g := (mkF m 6 #[.val (.ref u0), .val (.ref u1)] [(.ref u1), (.ref u0)])) rfl rfl (hb hby d23_6)
  have Fw2 := Fld.same W2 F_value
  have N2 := Fr.snoc X2 N0 g0
  have Z2 : n0 ≤ h2.size := Nat.le_trans Z0 (Nat.le_of_eq W2.size.symm)
  have Kp2 := (Keep.refl h0 [u0]).wr W2 (Or.inl (List.mem_of_getElem? (i := 0) rfl))
  obtain ⟨fs, hr, hrun, hended, hW, hsame⟩ := X2.leave (v := none) (fun _ => rfl)
  refine ⟨_, _, ?_, hrun, hended, _, _, rfl, ?_, ⟨_, rfl⟩, hW, hsame.mono (by decide) (by decide)⟩
  · show Steps p.tables e below (s₁.setTop (mkF m 0 #[.val (.ref u0), .val (.ref u1)] [])) _
    refine XS.aloadN X0.here hx rfl (hb hby d23_0) rfl rfl ?_
    show Steps p.tables e below (s₁.setTop (mkF m 1 #[.val (.ref u0), .val (.ref u1)] [(.ref u0)])) _
    refine st1 _ ?_
    show Steps p.tables e below (T1.setTop (mkF m 4 #[.val (.ref u0), .val (.ref u1)] [])) _
    refine XS.aloadN X1.here hx rfl (hb hby d23_4) rfl rfl ?_
    show Steps p.tables e below (T1.setTop (mkF m 5 #[.val (.ref u0), .val (.ref u1)] [(.ref u0)])) _
    refine XS.aloadN X1.here hx rfl (hb hby d23_5) rfl rfl ?_
    show Steps p.tables e below (T1.setTop (mkF m 6 #[.val (.ref u0), .val (.ref u1)] [(.ref u1), (.ref u0)])) _
    refine st2 _ ?_
    show Steps p.tables e below (T2.setTop (mkF m 9 #[.val (.ref u0), .val (.ref u1)] [])) _
    exact X2.returnOut hx Bd.returns (hb hby d23_9) hr
  · show Q23 Z u0 u1  h0 n0 _ T2.heap _
    rw [e2]
    exact ⟨rfl, N2, Kp2, (E0.wr W2), Fw2⟩
theorem d21_0 : decode jdk_32_method_3_code 0 = .ok (.new 2, 3) := by decide +kernel
theorem d21_3 : decode jdk_32_method_3_code 3 = .ok (.dup, 1) := by decide +kernel
theorem d21_4 : decode jdk_32_method_3_code 4 = .ok (.aload_n 0, 1) := by decide +kernel
theorem d21_5 : decode jdk_32_method_3_code 5 = .ok (.invokestatic 17, 3) := by decide +kernel
theorem d21_8 : decode jdk_32_method_3_code 8 = .ok (.invokespecial 23, 3) := by decide +kernel
theorem d21_11 : decode jdk_32_method_3_code 11 = .ok (.areturn, 1) := by decide +kernel
theorem pn_21 : plainName "java/util/Optional" = true := by first | (simp [plainName, overriddenIn]; done) | decide +kernel
theorem pd_4 : parseMethodDescriptor "(Ljava/lang/Object;)Ljava/lang/Object;" = some ⟨[(.object "java/lang/Object")], some (.object "java/lang/Object")⟩ := by decide +kernel
theorem pd_5 : parseMethodDescriptor "(Ljava/lang/Object;)V" = some ⟨[(.object "java/lang/Object")], none⟩ := by decide +kernel
theorem ef_21 (m : MethodId) (u0 : Addr)  : entryFrame m #[(.ref u0)] 1 = mkF m 0 #[.val (.ref u0)] [] := by first | (simp [entryFrame, mkF, argsToLocals, Value.category]; done) | rfl
def Q21 (Z : State) (u0 : Addr) (h0 : Heap) (n0 : Nat) (v : Option Value) (h : Heap) (L : List Loc) : Prop := ∃ b : Addr, v = some (.ref b) ∧ Fr n0 L ∧ Keep h0 h [] ∧ Exa Z h b "java/util/Optional" ∧ Fld Z h b "java/util/Optional" "value" "Ljava/lang/Object;" (.ref u0)
set_option maxRecDepth 65536 in
set_option maxHeartbeats 40000000 in
theorem rm21 (l : Launch) (Z : State) (a0 : Array Value) (hw : ∀ d ∈ tables_1, d.before a0 Z = true) (ws : List Jvm.Cond) (u0 : Addr) (h0 : Heap) (n0 : Nat) (Z0 : n0 ≤ h0.size) :
    MetFree l (⟨"java/util/Optional", "of", "(Ljava/lang/Object;)Ljava/util/Optional;"⟩ : MethodName) (head1 (Jvm.Cond.code (⟨"java/util/Optional", "of", "(Ljava/lang/Object;)Ljava/util/Optional;"⟩ : MethodName) jdk_32_method_3_code 1 (some (.object "java/util/Optional")) :: ws) ({ frames := 2, cells := 1, slots := 1, locals := 26 } : Room)) (fun a U => a = #[(.ref u0)] ∧ Z.Warmed39 U.vm ∧ U.heap = h0) (fun _ _ _ _ _ => True) (fun _ U o U' => ∃ v L, o = .returned v ∧ Q21 Z u0 h0 n0 v U'.heap L ∧ FrameEnd U o U' L ({ frames := 2, cells := 1, slots := 1, locals := 26 } : Room).cells ({ frames := 2, cells := 1, slots := 1, locals := 26 } : Room).slots) := by
  refine MetFree.of_bodySF (plainFor_of_name pn_21) hisR ?_
  intro p e s m args below meth c s₁ Bd hml0 hP hK
  obtain ⟨rfl, hZ, hh⟩ := hP
  have hx := Bd.exec
  have hby := Bd.bytes
  have hml : c.maxLocals = 1 := hml0
  have hown : s.vm.findClass "java/util/Optional" = some m.cls := findClass_of_methodNamed Bd.named
  have hnm := (name_of_methodNamed Bd.named Bd.method).1
  have X0 : Stand p l e ({ frames := 2, cells := 1, slots := 1, locals := 26 } : Room) s m #[(.ref u0)] below meth c s₁ [] 0 0 := Stand.of_body Bd
  have e0 : s₁.heap = h0 := by rw [← hh, Bd.state]; rfl
  have N0 := Fr.nil n0
  have pre0 : ∀ t, Steps p.tables e below (s₁.setTop (mkF m 0 #[.val (.ref u0)] [])) t → Steps p.tables e below (s₁.setTop (entryFrame m #[(.ref u0)] 1)) t := fun t k => castTop (ef_21 m u0) k
  show Done p e below _ _
  refine Done.of ?_ pre0
  obtain ⟨T1, h1, X1, e1, E1, A1, D1, -, st1⟩ := newO X0 hx hZ hown (hw _ (List.mem_of_getElem? (i := 117) rfl)) (hw _ (List.mem_of_getElem? (i := 118) rfl)) (hw _ (List.mem_of_getElem? (i := 89) rfl)) e0 (g := (mkF m 0 #[.val (.ref u0)] [])) rfl (hb hby d21_0) (by decide) (by decide)
  obtain ⟨b1, g1⟩ : ∃ z, z = h0.size := ⟨_, rfl⟩
  rw [← g1] at A1 D1 st1
  have gnb1 : n0 ≤ b1 := Nat.le_trans Z0 (Nat.le_of_eq g1.symm)
  have Z1 : n0 ≤ h1.size := Nat.le_trans Z0 E1.1
  have szb1 : h0.size ≤ b1 := Nat.le_trans (Keep.refl h0 []).1 (Nat.le_of_eq g1.symm)
  have Kp1 := (Keep.refl h0 []).ext E1
  have F1_value : Fld Z h1 b1 "java/util/Optional" "value" "Ljava/lang/Object;" .null := D1 (Or.inr (hw _ (List.mem_of_getElem? (i := 129) rfl))) (ty := (.object "java/lang/Object")) (by decide)
  obtain ⟨_, _, ⟨T2, L2, k2, n2⟩, -, X2, ⟨Lc2, hQ2, l2, y2, z2⟩, st2⟩ := Jvm.LawKit.callS X1 hx (y := (⟨"java/util/Objects", "requireNonNull", "(Ljava/lang/Object;)Ljava/lang/Object;"⟩ : MethodName)) hown (mvT hZ (hw _ (List.mem_of_getElem? (i := 119) rfl))) (mvT hZ (hw _ (List.mem_of_getElem? (i := 120) rfl))) (mvT hZ (hw _ (List.mem_of_getElem? (i := 121) rfl))) (mvT hZ (hw _ (List.mem_of_getElem? (i := 122) rfl))) (by decide) (backOf (W := 2) (rm22 l Z a0 hw [] u0 h1 n0 Z1 ) hZ (hw _ (List.mem_of_getElem? (i := 122) rfl)) (hw _ (List.mem_of_getElem? (i := 121) rfl)) (by decide) (by decide)) (g := (mkF m 5 #[.val (.ref u0)] [(.ref u0), (.ref b1), (.ref b1)])) rfl (by rw [hml]; rfl) (argsL := [(.ref u0)]) (rest := [(.ref b1), (.ref b1)]) (lenOf pd_4 rfl) rfl (by show 2 * 0 + _ ≤ _; exact Nat.le_of_eq rfl) (hb hby d21_5) (fun _ _ => ⟨rfl, e1, (by decide : 1 + 0 ≤ _), (by decide : 1 + 0 ≤ _)⟩)
  dsimp only [Pt.U, Pt.locs, Pt.cells, Pt.slots] at X2 l2 y2 z2 st2 hQ2
  rw [l2, y2, z2] at X2
  obtain ⟨rfl, N2q, e2⟩ := hQ2
  have N2 := Fr.app N0 N2q
  obtain ⟨_, _, ⟨T3, L3, k3, n3⟩, -, X3, ⟨Lc3, hQ3, l3, y3, z3⟩, st3⟩ := X2.specialBack hx (y := (⟨"java/util/Optional", "<init>", "(Ljava/lang/Object;)V"⟩ : MethodName)) rfl hown (mvT hZ (hw _ (List.mem_of_getElem? (i := 123) rfl))) (mvT hZ (hw _ (List.mem_of_getElem? (i := 124) rfl))) (mvT hZ (hw _ (List.mem_of_getElem? (i := 126) rfl))) (by decide) (backOf (W := 1) (rm23 l Z a0 hw [] b1 u0 h1 n0 Z1 A1 gnb1 F1_value) hZ (hw _ (List.mem_of_getElem? (i := 126) rfl)) (hw _ (List.mem_of_getElem? (i := 89) rfl)) (by decide) (by decide)) (g := (mkF m 8 #[.val (.ref u0)] [(.ref u0), (.ref b1), (.ref b1)])) rfl (by rw [hml]; rfl) (Steps.refl _) (a := b1) (argsL := [(.ref u0)]) (rest := [(.ref b1)]) (lenOf pd_5 rfl) rfl (by show 2 * 0 + _ ≤ _; exact Nat.le_of_eq rfl) (hb hby d21_8) (fun _ _ => ⟨rfl, e2, (by decide : 1 + 0 ≤ _), (by decide : 1 + 0 ≤ _)⟩)
  dsimp only [Pt.U, Pt.locs, Pt.cells, Pt.slots] at X3 l3 y3 z3 st3 hQ3
  rw [l3, y3, z3] at X3
  obtain ⟨rfl, N3q, K3q, EI3, FI3⟩ := hQ3
  have N3 := Fr.app N2 N3q
  have Z3 : n0 ≤ T3.heap.size := Nat.le_trans Z1 K3q.1
  have Kp3 := Kp1.trans K3q (fun x hx => Or.inr (by cases List.mem_singleton.mp hx; exact szb1))
  obtain ⟨fs, hr, hrun, hended, hW, hsame⟩ := X3.leave (v := some (.ref b1)) (fun h => by rw [Bd.returns] at h; cases h)
  refine ⟨_, _, ?_, hrun, hended, _, _, rfl, ?_, ⟨_, rfl⟩, hW, hsame.mono (by decide) (by decide)⟩
  · show Steps p.tables e below (s₁.setTop (mkF m 0 #[.val (.ref u0)] [])) _
    refine st1 _ ?_
    show Steps p.tables e below (T1.setTop (mkF m 3 #[.val (.ref u0)] [(.ref b1)])) _
    refine XS.dup X1.here hx rfl (hb hby d21_3) rfl rfl ?_
    show Steps p.tables e below (T1.setTop (mkF m 4 #[.val (.ref u0)] [(.ref b1), (.ref b1)])) _
    refine XS.aloadN X1.here hx rfl (hb hby d21_4) rfl rfl ?_
    show Steps p.tables e below (T1.setTop (mkF m 5 #[.val (.ref u0)] [(.ref u0), (.ref b1), (.ref b1)])) _
    refine st2 _ ?_
    show Steps p.tables e below (T2.setTop (mkF m 8 #[.val (.ref u0)] [(.ref u0), (.ref b1), (.ref b1)])) _
    refine st3.trans ?_
    show Steps p.tables e below (T3.setTop (mkF m 11 #[.val (.ref u0)] [(.ref b1)])) _
    jvm_step X3.here [X3.here.top, hx, (hb hby d21_11), X3.method', Bd.returns, Value.isRef, FieldType.isReference]
    first | (intro acts; rw [hr _ acts rfl rfl rfl]) | rw [hr _ _ rfl rfl rfl]
    exact Steps.refl _
  · show Q21 Z u0  h0 n0 _ T3.heap _
    exact ⟨b1, rfl, N3, Kp3, EI3, FI3⟩
theorem d24_0 : decode jdk_32_method_6_code 0 = .ok (.aload_n 0, 1) := by decide +kernel
theorem d24_1 : decode jdk_32_method_6_code 1 = .ok (.getfield 13, 3) := by decide +kernel
theorem d24_4 : decode jdk_32_method_6_code 4 = .ok (.ifnull 7, 3) := by decide +kernel
theorem d24_7 : decode jdk_32_method_6_code 7 = .ok (.iconst 1, 1) := by decide +kernel
theorem d24_8 : decode jdk_32_method_6_code 8 = .ok (.goto 4, 3) := by decide +kernel
theorem d24_12 : decode jdk_32_method_6_code 12 = .ok (.ireturn, 1) := by decide +kernel
theorem pn_24 : plainName "java/util/Optional" = true := by first | (simp [plainName, overriddenIn]; done) | decide +kernel
theorem ef_24y (m : MethodId) (u0 : Addr)  : entryFrame m #[(.ref u0)] 1 = mkF m 0 #[.val (.ref u0)] [] := by first | (simp [entryFrame, mkF, argsToLocals, Value.category]; done) | rfl
def Q24y (Z : State) (u0 : Addr) (w : Addr) (h0 : Heap) (n0 : Nat) (v : Option Value) (h : Heap) (L : List Loc) : Prop := v = some (.int (1 : Int32)) ∧ Fr n0 L ∧ h = h0
set_option maxRecDepth 65536 in
set_option maxHeartbeats 40000000 in
theorem rm24y (l : Launch) (Z : State) (a0 : Array Value) (hw : ∀ d ∈ tables_1, d.before a0 Z = true) (ws : List Jvm.Cond) (u0 : Addr) (w : Addr) (h0 : Heap) (n0 : Nat) (Z0 : n0 ≤ h0.size) (FV : Fld Z h0 u0 "java/util/Optional" "value" "Ljava/lang/Object;" (.ref w)) :
    MetFree l (⟨"java/util/Optional", "isPresent", "()Z"⟩ : MethodName) (head1 (Jvm.Cond.code (⟨"java/util/Optional", "isPresent", "()Z"⟩ : MethodName) jdk_32_method_6_code 1 (some .boolean) :: ws) ({ frames := 0, cells := 0, slots := 0, locals := 0 } : Room)) (fun a U => a = #[(.ref u0)] ∧ Z.Warmed39 U.vm ∧ U.heap = h0) (fun _ _ _ _ _ => True) (fun _ U o U' => ∃ v L, o = .returned v ∧ Q24y Z u0 w h0 n0 v U'.heap L ∧ FrameEnd U o U' L ({ frames := 0, cells := 0, slots := 0, locals := 0 } : Room).cells ({ frames := 0, cells := 0, slots := 0, locals := 0 } : Room).slots) := by
  refine MetFree.of_bodySF (plainFor_of_name pn_24) hisR ?_
  intro p e s m args below meth c s₁ Bd hml0 hP hK
  obtain ⟨rfl, hZ, hh⟩ := hP
  have hx := Bd.exec
  have hby := Bd.bytes
  have hml : c.maxLocals = 1 := hml0
  have hown : s.vm.findClass "java/util/Optional" = some m.cls := findClass_of_methodNamed Bd.named
  have hnm := (name_of_methodNamed Bd.named Bd.method).1
  have X0 : Stand p l e ({ frames := 0, cells := 0, slots := 0, locals := 0 } : Room) s m #[(.ref u0)] below meth c s₁ [] 0 0 := Stand.of_body Bd
  have e0 : s₁.heap = h0 := by rw [← hh, Bd.state]; rfl
  have N0 := Fr.nil n0
  have pre0 : ∀ t, Steps p.tables e below (s₁.setTop (mkF m 0 #[.val (.ref u0)] [])) t → Steps p.tables e below (s₁.setTop (entryFrame m #[(.ref u0)] 1)) t := fun t k => castTop (ef_24y m u0) k
  show Done p e below _ _
  refine Done.of ?_ pre0
  obtain ⟨T1, X1, e1, st1⟩ := getF X0 hx hZ hown (host := "") (Or.inl (hw _ (List.mem_of_getElem? (i := 128) rfl))) Via.refl e0 FV (g := (mkF m 1 #[.val (.ref u0)] [(.ref u0)])) rfl rfl (hb hby d24_1)
  obtain ⟨fs, hr, hrun, hended, hW, hsame⟩ := X1.leave (v := some (.int (1 : Int32))) (fun h => by rw [Bd.returns] at h; cases h)
  refine ⟨_, _, ?_, hrun, hended, _, _, rfl, ?_, ⟨_, rfl⟩, hW, hsame.mono (by decide) (by decide)⟩
  · show Steps p.tables e below (s₁.setTop (mkF m 0 #[.val (.ref u0)] [])) _
    refine XS.aloadN X0.here hx rfl (hb hby d24_0) rfl rfl ?_
    show Steps p.tables e below (s₁.setTop (mkF m 1 #[.val (.ref u0)] [(.ref u0)])) _
    refine st1 _ ?_
    show Steps p.tables e below (T1.setTop (mkF m 4 #[.val (.ref u0)] [(.ref w)])) _
    refine XS.ifnullNo X1.here hx rfl (hb hby d24_4) rfl ?_
    show Steps p.tables e below (T1.setTop (mkF m 7 #[.val (.ref u0)] [])) _
    refine XS.iconst X1.here hx rfl (hb hby d24_7) ?_
    show Steps p.tables e below (T1.setTop (mkF m 8 #[.val (.ref u0)] [(.int (1 : Int32))])) _
    refine XS.goto X1.here hx rfl (pc0 := 8) (pc' := 12) rfl (hb hby d24_8) (by decide) (by decide) ?_
    show Steps p.tables e below (T1.setTop (mkF m 12 #[.val (.ref u0)] [(.int (1 : Int32))])) _
    exact retN X1 hx (t := .boolean) Bd.returns (by simp) (hb hby d24_12) hr
  · show Q24y Z u0 w h0 n0 _ T1.heap _
    rw [e1]
    refine ⟨?_, N0, rfl⟩
    rfl
theorem d24_11 : decode jdk_32_method_6_code 11 = .ok (.iconst 0, 1) := by decide +kernel
theorem ef_24n (m : MethodId) (u0 : Addr)  : entryFrame m #[(.ref u0)] 1 = mkF m 0 #[.val (.ref u0)] [] := by first | (simp [entryFrame, mkF, argsToLocals, Value.category]; done) | rfl
def Q24n (Z : State) (u0 : Addr) (h0 : Heap) (n0 : Nat) (v : Option Value) (h : Heap) (L : List Loc) : Prop := v = some (.int (0 : Int32)) ∧ Fr n0 L ∧ h = h0
set_option maxRecDepth 65536 in
set_option maxHeartbeats 40000000 in
theorem rm24n (l : Launch) (Z : State) (a0 : Array Value) (hw : ∀ d ∈ tables_1, d.before a0 Z = true) (ws : List Jvm.Cond) (u0 : Addr) (h0 : Heap) (n0 : Nat) (Z0 : n0 ≤ h0.size) (FV : Fld Z h0 u0 "java/util/Optional" "value" "Ljava/lang/Object;" .null) :
    MetFree l (⟨"java/util/Optional", "isPresent", "()Z"⟩ : MethodName) (head1 (Jvm.Cond.code (⟨"java/util/Optional", "isPresent", "()Z"⟩ : MethodName) jdk_32_method_6_code 1 (some .boolean) :: ws) ({ frames := 0, cells := 0, slots := 0, locals := 0 } : Room)) (fun a U => a = #[(.ref u0)] ∧ Z.Warmed39 U.vm ∧ U.heap = h0) (fun _ _ _ _ _ => True) (fun _ U o U' => ∃ v L, o = .returned v ∧ Q24n Z u0 h0 n0 v U'.heap L ∧ FrameEnd U o U' L ({ frames := 0, cells := 0, slots := 0, locals := 0 } : Room).cells ({ frames := 0, cells := 0, slots := 0, locals := 0 } : Room).slots) := by
  refine MetFree.of_bodySF (plainFor_of_name pn_24) hisR ?_
  intro p e s m args below meth c s₁ Bd hml0 hP hK
  obtain ⟨rfl, hZ, hh⟩ := hP
  have hx := Bd.exec
  have hby := Bd.bytes
  have hml : c.maxLocals = 1 := hml0
  have hown : s.vm.findClass "java/util/Optional" = some m.cls := findClass_of_methodNamed Bd.named
  have hnm := (name_of_methodNamed Bd.named Bd.method).1
  have X0 : Stand p l e ({ frames := 0, cells := 0, slots := 0, locals := 0 } : Room) s m #[(.ref u0)] below meth c s₁ [] 0 0 := Stand.of_body Bd
  have e0 : s₁.heap = h0 := by rw [← hh, Bd.state]; rfl
  have N0 := Fr.nil n0
  have pre0 : ∀ t, Steps p.tables e below (s₁.setTop (mkF m 0 #[.val (.ref u0)] [])) t → Steps p.tables e below (s₁.setTop (entryFrame m #[(.ref u0)] 1)) t := fun t k => castTop (ef_24n m u0) k
  show Done p e below _ _
  refine Done.of ?_ pre0
  obtain ⟨T1, X1, e1, st1⟩ := getF X0 hx hZ hown (host := "") (Or.inl (hw _ (List.mem_of_getElem? (i := 128) rfl))) Via.refl e0 FV (g := (mkF m 1 #[.val (.ref u0)] [(.ref u0)])) rfl rfl (hb hby d24_1)
  obtain ⟨fs, hr, hrun, hended, hW, hsame⟩ := X1.leave (v := some (.int (0 : Int32))) (fun h => by rw [Bd.returns] at h; cases h)
  refine ⟨_, _, ?_, hrun, hended, _, _, rfl, ?_, ⟨_, rfl⟩, hW, hsame.mono (by decide) (by decide)⟩
  · show Steps p.tables e below (s₁.setTop (mkF m 0 #[.val (.ref u0)] [])) _
    refine XS.aloadN X0.here hx rfl (hb hby d24_0) rfl rfl ?_
    show Steps p.tables e below (s₁.setTop (mkF m 1 #[.val (.ref u0)] [(.ref u0)])) _
    refine st1 _ ?_
    show Steps p.tables e below (T1.setTop (mkF m 4 #[.val (.ref u0)] [.null])) _
    refine XS.ifnullYes X1.here hx rfl (pc0 := 4) (pc' := 11) rfl (hb hby d24_4) rfl (by decide) (by decide) ?_
    show Steps p.tables e below (T1.setTop (mkF m 11 #[.val (.ref u0)] [])) _
    refine XS.iconst X1.here hx rfl (hb hby d24_11) ?_
    show Steps p.tables e below (T1.setTop (mkF m 12 #[.val (.ref u0)] [(.int (0 : Int32))])) _
    exact retN X1 hx (t := .boolean) Bd.returns (by simp) (hb hby d24_12) hr
  · show Q24n Z u0  h0 n0 _ T1.heap _
    rw [e1]
    refine ⟨?_, N0, rfl⟩
    rfl
theorem d25_0 : decode jdk_32_method_5_code 0 = .ok (.aload_n 0, 1) := by decide +kernel
theorem d25_1 : decode jdk_32_method_5_code 1 = .ok (.getfield 13, 3) := by decide +kernel
theorem d25_4 : decode jdk_32_method_5_code 4 = .ok (.ifnonnull 13, 3) := by decide +kernel
theorem d25_17 : decode jdk_32_method_5_code 17 = .ok (.aload_n 0, 1) := by decide +kernel
theorem d25_18 : decode jdk_32_method_5_code 18 = .ok (.getfield 13, 3) := by decide +kernel
theorem d25_21 : decode jdk_32_method_5_code 21 = .ok (.areturn, 1) := by decide +kernel
theorem pn_25 : plainName "java/util/Optional" = true := by first | (simp [plainName, overriddenIn]; done) | decide +kernel
theorem ef_25 (m : MethodId) (u0 : Addr)  : entryFrame m #[(.ref u0)] 1 = mkF m 0 #[.val (.ref u0)] [] := by first | (simp [entryFrame, mkF, argsToLocals, Value.category]; done) | rfl
def Q25 (Z : State) (u0 : Addr) (w : Addr) (h0 : Heap) (n0 : Nat) (v : Option Value) (h : Heap) (L : List Loc) : Prop := v = some (.ref w) ∧ Fr n0 L ∧ h = h0
set_option maxRecDepth 65536 in
set_option maxHeartbeats 40000000 in
theorem rm25 (l : Launch) (Z : State) (a0 : Array Value) (hw : ∀ d ∈ tables_1, d.before a0 Z = true) (ws : List Jvm.Cond) (u0 : Addr) (w : Addr) (h0 : Heap) (n0 : Nat) (Z0 : n0 ≤ h0.size) (FV : Fld Z h0 u0 "java/util/Optional" "value" "Ljava/lang/Object;" (.ref w)) :
    MetFree l (⟨"java/util/Optional", "get", "()Ljava/lang/Object;"⟩ : MethodName) (head1 (Jvm.Cond.code (⟨"java/util/Optional", "get", "()Ljava/lang/Object;"⟩ : MethodName) jdk_32_method_5_code 1 (some (.object "java/lang/Object")) :: ws) ({ frames := 0, cells := 0, slots := 0, locals := 0 } : Room)) (fun a U => a = #[(.ref u0)] ∧ Z.Warmed39 U.vm ∧ U.heap = h0) (fun _ _ _ _ _ => True) (fun _ U o U' => ∃ v L, o = .returned v ∧ Q25 Z u0 w h0 n0 v U'.heap L ∧ FrameEnd U o U' L ({ frames := 0, cells := 0, slots := 0, locals := 0 } : Room).cells ({ frames := 0, cells := 0, slots := 0, locals := 0 } : Room).slots) := by
  refine MetFree.of_bodySF (plainFor_of_name pn_25) hisR ?_
  intro p e s m args below meth c s₁ Bd hml0 hP hK
  obtain ⟨rfl, hZ, hh⟩ := hP
  have hx := Bd.exec
  have hby := Bd.bytes
  have hml : c.maxLocals = 1 := hml0
  have hown : s.vm.findClass "java/util/Optional" = some m.cls := findClass_of_methodNamed Bd.named
  have hnm := (name_of_methodNamed Bd.named Bd.method).1
  have X0 : Stand p l e ({ frames := 0, cells := 0, slots := 0, locals := 0 } : Room) s m #[(.ref u0)] below meth c s₁ [] 0 0 := Stand.of_body Bd
  have e0 : s₁.heap = h0 := by rw [← hh, Bd.state]; rfl
  have N0 := Fr.nil n0
  have pre0 : ∀ t, Steps p.tables e below (s₁.setTop (mkF m 0 #[.val (.ref u0)] [])) t → Steps p.tables e below (s₁.setTop (entryFrame m #[(.ref u0)] 1)) t := fun t k => castTop (ef_25 m u0) k
  show Done p e below _ _
  refine Done.of ?_ pre0
  obtain ⟨T1, X1, e1, st1⟩ := getF X0 hx hZ hown (host := "") (Or.inl (hw _ (List.mem_of_getElem? (i := 128) rfl))) Via.refl e0 FV (g := (mkF m 1 #[.val (.ref u0)] [(.ref u0)])) rfl rfl (hb hby d25_1)
  obtain ⟨T2, X2, e2, st2⟩ := getF X1 hx hZ hown (host := "") (Or.inl (hw _ (List.mem_of_getElem? (i := 128) rfl))) Via.refl e1 FV (g := (mkF m 18 #[.val (.ref u0)] [(.ref u0)])) rfl rfl (hb hby d25_18)
  obtain ⟨fs, hr, hrun, hended, hW, hsame⟩ := X2.leave (v := some (.ref w)) (fun h => by rw [Bd.returns] at h; cases h)
  refine ⟨_, _, ?_, hrun, hended, _, _, rfl, ?_, ⟨_, rfl⟩, hW, hsame.mono (by decide) (by decide)⟩
  · show Steps p.tables e below (s₁.setTop (mkF m 0 #[.val (.ref u0)] [])) _
    refine XS.aloadN X0.here hx rfl (hb hby d25_0) rfl rfl ?_
    show Steps p.tables e below (s₁.setTop (mkF m 1 #[.val (.ref u0)] [(.ref u0)])) _
    refine st1 _ ?_
    show Steps p.tables e below (T1.setTop (mkF m 4 #[.val (.ref u0)] [(.ref w)])) _
    refine XS.ifnonnullYes X1.here hx rfl (pc0 := 4) (pc' := 17) rfl (hb hby d25_4) rfl (by decide) (by decide) ?_
    show Steps p.tables e below (T1.setTop (mkF m 17 #[.val (.ref u0)] [])) _
    refine XS.aloadN X1.here hx rfl (hb hby d25_17) rfl rfl ?_
    show Steps p.tables e below (T1.setTop (mkF m 18 #[.val (.ref u0)] [(.ref u0)])) _
    refine st2 _ ?_
    show Steps p.tables e below (T2.setTop (mkF m 21 #[.val (.ref u0)] [(.ref w)])) _
    jvm_step X2.here [X2.here.top, hx, (hb hby d25_21), X2.method', Bd.returns, Value.isRef, FieldType.isReference]
    first | (intro acts; rw [hr _ acts rfl rfl rfl]) | rw [hr _ _ rfl rfl rfl]
    exact Steps.refl _
  · show Q25 Z u0 w h0 n0 _ T2.heap _
    rw [e2]
    refine ⟨?_, N0, rfl⟩
    rfl
theorem d20_0 : decode prog_17_method_1_code 0 = .ok (.getstatic 16, 3) := by decide +kernel
theorem d20_3 : decode prog_17_method_1_code 3 = .ok (.invokevirtual 20, 3) := by decide +kernel
theorem d20_6 : decode prog_17_method_1_code 6 = .ok (.checkcast 21, 3) := by decide +kernel
theorem d20_9 : decode prog_17_method_1_code 9 = .ok (.areturn, 1) := by decide +kernel
theorem pn_20 : plainName "com/example/ensyn/ensyn/region/NetClass" = true := by first | (simp [plainName, overriddenIn]; done) | decide +kernel
theorem ef_20 (m : MethodId)   : entryFrame m #[] 0 = mkF m 0 #[] [] := by first | (simp [entryFrame, mkF, argsToLocals, Value.category]; done) | rfl
def Q20 (Z : State) (A : Nat → Addr) (va : Addr) (kv : ClassId) (dv : Value) (h0 : Heap) (n0 : Nat) (v : Option Value) (h : Heap) (L : List Loc) : Prop := ∃ b : Addr, v = some (.ref b) ∧ Fr n0 L ∧ Keep h0 h [] ∧ Arv Z h b kv (.object "com/example/ensyn/ensyn/region/NetClass") (4 : Int32) [(.ref (A 0)), (.ref (A 1)), (.ref (A 2)), (.ref (A 3))] dv
set_option maxRecDepth 65536 in
set_option maxHeartbeats 40000000 in
theorem rm20 (l : Launch) (Z : State) (a0 : Array Value) (hw : ∀ d ∈ tables_1, d.before a0 Z = true) (ws : List Jvm.Cond) (A : Nat → Addr) (va : Addr) (kv : ClassId) (dv : Value) (h0 : Heap) (n0 : Nat) (Z0 : n0 ≤ h0.size) (SV : Sta Z h0 "com/example/ensyn/ensyn/region/NetClass" "$VALUES" "[Lcom/example/ensyn/ensyn/region/NetClass;" (.ref va)) (EV0 : Exa Z h0 va "[Lcom/example/ensyn/ensyn/region/NetClass;") (VV0 : Arv Z h0 va kv (.object "com/example/ensyn/ensyn/region/NetClass") (4 : Int32) [(.ref (A 0)), (.ref (A 1)), (.ref (A 2)), (.ref (A 3))] dv) :
    MetFree l (⟨"com/example/ensyn/ensyn/region/NetClass", "values", "()[Lcom/example/ensyn/ensyn/region/NetClass;"⟩ : MethodName) (head1 (Jvm.Cond.code (⟨"com/example/ensyn/ensyn/region/NetClass", "values", "()[Lcom/example/ensyn/ensyn/region/NetClass;"⟩ : MethodName) prog_17_method_1_code 0 (some (.array (.object "com/example/ensyn/ensyn/region/NetClass"))) :: ws) ({ frames := 1, cells := 1, slots := 4, locals := 14 } : Room)) (fun a U => a = #[] ∧ Z.Warmed39 U.vm ∧ U.heap = h0) (fun _ _ _ _ _ => True) (fun _ U o U' => ∃ v L, o = .returned v ∧ Q20 Z A va kv dv h0 n0 v U'.heap L ∧ FrameEnd U o U' L ({ frames := 1, cells := 1, slots := 4, locals := 14 } : Room).cells ({ frames := 1, cells := 1, slots := 4, locals := 14 } : Room).slots) := by
  refine MetFree.of_bodySF (plainFor_of_name pn_20) hisR ?_
  intro p e s m args below meth c s₁ Bd hml0 hP hK
  obtain ⟨rfl, hZ, hh⟩ := hP
  have hx := Bd.exec
  have hby := Bd.bytes
  have hml : c.maxLocals = 0 := hml0
  have hown : s.vm.findClass "com/example/ensyn/ensyn/region/NetClass" = some m.cls := findClass_of_methodNamed Bd.named
  have hnm := (name_of_methodNamed Bd.named Bd.method).1
  have X0 : Stand p l e ({ frames := 1, cells := 1, slots := 4, locals := 14 } : Room) s m #[] below meth c s₁ [] 0 0 := Stand.of_body Bd
  have e0 : s₁.heap = h0 := by rw [← hh, Bd.state]; rfl
  have N0 := Fr.nil n0
  have pre0 : ∀ t, Steps p.tables e below (s₁.setTop (mkF m 0 #[] [])) t → Steps p.tables e below (s₁.setTop (entryFrame m #[] 0)) t := fun t k => castTop (ef_20 m ) k
  show Done p e below _ _
  refine Done.of ?_ pre0
  obtain ⟨T1, X1, e1, st1⟩ := getS2 X0 hx hZ hown (host := "") (Or.inl (hw _ (List.mem_of_getElem? (i := 95) rfl))) Via.refl e0 SV (g := (mkF m 0 #[] [])) rfl (hb hby d20_0)
  obtain ⟨T2, h2, X2, e2, E2, A2, D2, st2⟩ := cloneH X1 hx hZ hown (hw _ (List.mem_of_getElem? (i := 97) rfl)) (hw _ (List.mem_of_getElem? (i := 98) rfl)) (hw _ (List.mem_of_getElem? (i := 102) rfl)) (hw _ (List.mem_of_getElem? (i := 100) rfl)) (hw _ (List.mem_of_getElem? (i := 101) rfl)) (hw _ (List.mem_of_getElem? (i := 103) rfl)) e1 (Arv.arh VV0) EV0 (g := (mkF m 3 #[] [(.ref va)])) rfl (by rw [hml]; rfl) rfl (hb hby d20_3) (by decide) (W := 0) (cap := 4) (by show 2 * 0 + _ ≤ _; exact Nat.le_of_eq rfl) (by decide) (by decide) (by decide) (by decide)
  obtain ⟨b2, g2⟩ : ∃ z, z = h0.size := ⟨_, rfl⟩
  rw [← g2] at A2 D2 st2
  have gnb2 : n0 ≤ b2 := Nat.le_trans Z0 (Nat.le_of_eq g2.symm)
  have Z2 : n0 ≤ h2.size := Nat.le_trans Z0 E2.1
  have szb2 : h0.size ≤ b2 := Nat.le_trans (Keep.refl h0 []).1 (Nat.le_of_eq g2.symm)
  have Kp2 := (Keep.refl h0 []).ext E2
  have ne_2_1 : va ≠ b2 := Nat.ne_of_lt (Nat.lt_of_lt_of_le EV0.lt (Nat.le_of_eq g2.symm))
  have V2 : Arv Z h2 b2 kv (.object "com/example/ensyn/ensyn/region/NetClass") (4 : Int32) [(.ref (A 0)), (.ref (A 1)), (.ref (A 2)), (.ref (A 3))] dv := A2
  obtain ⟨T3, X3, e3, st3⟩ := castY X2 hx hZ hown (hw _ (List.mem_of_getElem? (i := 109) rfl)) e2 (Ins.self D2) (g := (mkF m 6 #[] [(.ref b2)])) rfl rfl (hb hby d20_6)
  obtain ⟨fs, hr, hrun, hended, hW, hsame⟩ := X3.leave (v := some (.ref b2)) (fun h => by rw [Bd.returns] at h; cases h)
  refine ⟨_, _, ?_, hrun, hended, _, _, rfl, ?_, ⟨_, rfl⟩, hW, hsame.mono (by decide) (by decide)⟩
  · show Steps p.tables e below (s₁.setTop (mkF m 0 #[] [])) _
    refine st1 _ ?_
    show Steps p.tables e below (T1.setTop (mkF m 3 #[] [(.ref va)])) _
    refine st2 _ ?_
    show Steps p.tables e below (T2.setTop (mkF m 6 #[] [(.ref b2)])) _
    refine st3 _ ?_
    show Steps p.tables e below (T3.setTop (mkF m 9 #[] [(.ref b2)])) _
    jvm_step X3.here [X3.here.top, hx, (hb hby d20_9), X3.method', Bd.returns, Value.isRef, FieldType.isReference]
    first | (intro acts; rw [hr _ acts rfl rfl rfl]) | rw [hr _ _ rfl rfl rfl]
    exact Steps.refl _
  · show Q20 Z  A va kv dv h0 n0 _ T3.heap _
    rw [e3]
    exact ⟨b2, rfl, N0, Kp2, V2⟩

def own_W (Z : State) (h : Heap) (A NM : Nat → Addr) (va em : Addr) (kv : ClassId) (dv : Value) : Prop := Exa Z h va "[Lcom/example/ensyn/ensyn/region/NetClass;" ∧ Arv Z h va kv (.object "com/example/ensyn/ensyn/region/NetClass") (4 : Int32) [(.ref (A 0)), (.ref (A 1)), (.ref (A 2)), (.ref (A 3))] dv ∧ Exa Z h em "java/util/Optional" ∧ Fld Z h em "java/util/Optional" "value" "Ljava/lang/Object;" .null ∧ Fld Z h (A 0) "com/example/ensyn/ensyn/region/NetClass" "shortName" "Ljava/lang/String;" (.ref (NM 0)) ∧ own_Str Z h (NM 0) own_c0 ∧ Fld Z h (A 1) "com/example/ensyn/ensyn/region/NetClass" "shortName" "Ljava/lang/String;" (.ref (NM 1)) ∧ own_Str Z h (NM 1) own_c1 ∧ Fld Z h (A 2) "com/example/ensyn/ensyn/region/NetClass" "shortName" "Ljava/lang/String;" (.ref (NM 2)) ∧ own_Str Z h (NM 2) own_c2 ∧ Fld Z h (A 3) "com/example/ensyn/ensyn/region/NetClass" "shortName" "Ljava/lang/String;" (.ref (NM 3)) ∧ own_Str Z h (NM 3) own_c3
theorem own_W.ext {Z : State} {h h' : Heap} {A NM : Nat → Addr} {va em : Addr} {kv : ClassId} {dv : Value} (H : own_W Z h A NM va em kv dv) (E : Ext h h') : own_W Z h' A NM va em kv dv := by
  obtain ⟨a1, a2, a3, a4, f0, t0, f1, t1, f2, t2, f3, t3⟩ := H
  exact ⟨a1.ext E, a2.ext E, a3.ext E, a4.ext E, f0.ext E, t0.ext E, f1.ext E, t1.ext E, f2.ext E, t2.ext E, f3.ext E, t3.ext E⟩
theorem own_W.keep0 {Z : State} {h h' : Heap} {A NM : Nat → Addr} {va em : Addr} {kv : ClassId} {dv : Value} (H : own_W Z h A NM va em kv dv) (E : Keep h h' []) : own_W Z h' A NM va em kv dv := by
  obtain ⟨a1, a2, a3, a4, f0, t0, f1, t1, f2, t2, f3, t3⟩ := H
  exact ⟨a1.keep E, a2.keep E (by simp), a3.keep E, a4.keep E (by simp), f0.keep E (by simp), t0.keep0 E, f1.keep E (by simp), t1.keep0 E, f2.keep E (by simp), t2.keep0 E, f3.keep E (by simp), t3.keep0 E⟩
theorem d18_0 : decode prog_17_method_4_code 0 = .ok (.invokestatic 39, 3) := by decide +kernel
theorem d18_3 : decode prog_17_method_4_code 3 = .ok (.astore_n 1, 1) := by decide +kernel
theorem d18_4 : decode prog_17_method_4_code 4 = .ok (.invokestatic 45, 3) := by decide +kernel
theorem d18_7 : decode prog_17_method_4_code 7 = .ok (.astore_n 2, 1) := by decide +kernel
theorem d18_8 : decode prog_17_method_4_code 8 = .ok (.aload_n 2, 1) := by decide +kernel
theorem d18_9 : decode prog_17_method_4_code 9 = .ok (.arraylength, 1) := by decide +kernel
theorem d18_10 : decode prog_17_method_4_code 10 = .ok (.istore_n 3, 1) := by decide +kernel
theorem d18_11 : decode prog_17_method_4_code 11 = .ok (.iconst 0, 1) := by decide +kernel
theorem d18_12 : decode prog_17_method_4_code 12 = .ok (.istore 4, 2) := by decide +kernel
theorem d18_14 : decode prog_17_method_4_code 14 = .ok (.iload 4, 2) := by decide +kernel
theorem d18_16 : decode prog_17_method_4_code 16 = .ok (.iload_n 3, 1) := by decide +kernel
theorem d18_17 : decode prog_17_method_4_code 17 = .ok (.if_icmp .ge 33, 3) := by decide +kernel
theorem d18_20 : decode prog_17_method_4_code 20 = .ok (.aload_n 2, 1) := by decide +kernel
theorem d18_21 : decode prog_17_method_4_code 21 = .ok (.iload 4, 2) := by decide +kernel
theorem d18_23 : decode prog_17_method_4_code 23 = .ok (.aaload, 1) := by decide +kernel
theorem d18_24 : decode prog_17_method_4_code 24 = .ok (.astore 5, 2) := by decide +kernel
theorem d18_26 : decode prog_17_method_4_code 26 = .ok (.aload 5, 2) := by decide +kernel
theorem d18_28 : decode prog_17_method_4_code 28 = .ok (.getfield 35, 3) := by decide +kernel
theorem d18_31 : decode prog_17_method_4_code 31 = .ok (.aload_n 0, 1) := by decide +kernel
theorem d18_32 : decode prog_17_method_4_code 32 = .ok (.invokevirtual 49, 3) := by decide +kernel
theorem d18_35 : decode prog_17_method_4_code 35 = .ok (.ifCond .eq 9, 3) := by decide +kernel
theorem d18_38 : decode prog_17_method_4_code 38 = .ok (.aload 5, 2) := by decide +kernel
theorem d18_40 : decode prog_17_method_4_code 40 = .ok (.invokestatic 55, 3) := by decide +kernel
theorem d18_43 : decode prog_17_method_4_code 43 = .ok (.astore_n 1, 1) := by decide +kernel
theorem d18_44 : decode prog_17_method_4_code 44 = .ok (.iinc 4 1, 3) := by decide +kernel
theorem d18_47 : decode prog_17_method_4_code 47 = .ok (.goto (-33), 3) := by decide +kernel
theorem d18_50 : decode prog_17_method_4_code 50 = .ok (.aload_n 1, 1) := by decide +kernel
theorem d18_51 : decode prog_17_method_4_code 51 = .ok (.areturn, 1) := by decide +kernel
theorem pn_18 : plainName "com/example/ensyn/ensyn/region/NetClass" = true := by first | (simp [plainName, overriddenIn]; done) | decide +kernel
theorem pd_6 : parseMethodDescriptor "()Ljava/util/Optional;" = some ⟨[], some (.object "java/util/Optional")⟩ := by decide +kernel
theorem pd_7 : parseMethodDescriptor "()[Lcom/example/ensyn/ensyn/region/NetClass;" = some ⟨[], some (.array (.object "com/example/ensyn/ensyn/region/NetClass"))⟩ := by decide +kernel
theorem pd_8 : parseMethodDescriptor "(Ljava/lang/Object;)Z" = some ⟨[(.object "java/lang/Object")], some .boolean⟩ := by decide +kernel
theorem pd_9 : parseMethodDescriptor "(Ljava/lang/Object;)Ljava/util/Optional;" = some ⟨[(.object "java/lang/Object")], some (.object "java/util/Optional")⟩ := by decide +kernel
theorem ef_18 (m : MethodId) (u0 : Addr)  : entryFrame m #[(.ref u0)] 6 = mkF m 0 #[.val (.ref u0), .unset, .unset, .unset, .unset, .unset] [] := by first | (simp [entryFrame, mkF, argsToLocals, Value.category]; done) | rfl
def Q18 (Z : State) (u0 : Addr) (A : Nat → Addr) (NM : Nat → Addr) (va : Addr) (em : Addr) (kv : ClassId) (dv : Value) (cs : List Int32) (cz : Int32) (h0 : Heap) (n0 : Nat) (v : Option Value) (h : Heap) (L : List Loc) : Prop := ∃ o : Addr, v = some (.ref o) ∧ Fr n0 L ∧ Keep h0 h [] ∧ Exa Z h o "java/util/Optional" ∧ Fld Z h o "java/util/Optional" "value" "Ljava/lang/Object;" (own_opt A cs)
set_option maxRecDepth 65536 in
set_option maxHeartbeats 40000000 in
theorem rm18 (l : Launch) (Z : State) (a0 : Array Value) (hw : ∀ d ∈ tables_1, d.before a0 Z = true) (ws : List Jvm.Cond) (u0 : Addr) (A : Nat → Addr) (NM : Nat → Addr) (va : Addr) (em : Addr) (kv : ClassId) (dv : Value) (cs : List Int32) (cz : Int32) (h0 : Heap) (n0 : Nat) (Z0 : n0 ≤ h0.size) (HW : own_W Z h0 A NM va em kv dv) (SV : Sta Z h0 "com/example/ensyn/ensyn/region/NetClass" "$VALUES" "[Lcom/example/ensyn/ensyn/region/NetClass;" (.ref va)) (SE : Sta Z h0 "java/util/Optional" "EMPTY" "Ljava/util/Optional;" (.ref em)) (SCS : Sta Z h0 "java/lang/String" "COMPACT_STRINGS" "Z" (.int cz)) (hcs : ¬ cz = (0 : Int32)) (HT : own_Str Z h0 u0 cs) :
    MetFree l (⟨"com/example/ensyn/ensyn/region/NetClass", "named", "(Ljava/lang/String;)Ljava/util/Optional;"⟩ : MethodName) (head1 (Jvm.Cond.code (⟨"com/example/ensyn/ensyn/region/NetClass", "named", "(Ljava/lang/String;)Ljava/util/Optional;"⟩ : MethodName) prog_17_method_4_code 6 (some (.object "java/util/Optional")) :: ws) ({ frames := 3, cells := 2, slots := 5, locals := 38 } : Room)) (fun a U => a = #[(.ref u0)] ∧ Z.Warmed39 U.vm ∧ U.heap = h0) (fun _ _ _ _ _ => True) (fun _ U o U' => ∃ v L, o = .returned v ∧ Q18 Z u0 A NM va em kv dv cs cz h0 n0 v U'.heap L ∧ FrameEnd U o U' L ({ frames := 3, cells := 2, slots := 5, locals := 38 } : Room).cells ({ frames := 3, cells := 2, slots := 5, locals := 38 } : Room).slots) := by
  refine MetFree.of_bodySF (plainFor_of_name pn_18) hisR ?_
  intro p e s m args below meth c s₁ Bd hml0 hP hK
  obtain ⟨rfl, hZ, hh⟩ := hP
  have hx := Bd.exec
  have hby := Bd.bytes
  have hml : c.maxLocals = 6 := hml0
  have hown : s.vm.findClass "com/example/ensyn/ensyn/region/NetClass" = some m.cls := findClass_of_methodNamed Bd.named
  have hnm := (name_of_methodNamed Bd.named Bd.method).1
  have X0 : Stand p l e ({ frames := 3, cells := 2, slots := 5, locals := 38 } : Room) s m #[(.ref u0)] below meth c s₁ [] 0 0 := Stand.of_body Bd
  have e0 : s₁.heap = h0 := by rw [← hh, Bd.state]; rfl
  have N0 := Fr.nil n0
  have pre0 : ∀ t, Steps p.tables e below (s₁.setTop (mkF m 0 #[.val (.ref u0), .unset, .unset, .unset, .unset, .unset] [])) t → Steps p.tables e below (s₁.setTop (entryFrame m #[(.ref u0)] 6)) t := fun t k => castTop (ef_18 m u0) k
  show Done p e below _ _
  refine Done.of ?_ pre0
  obtain ⟨wa1, wa2, wa3, wa4, wf0, wt0, wf1, wt1, wf2, wt2, wf3, wt3⟩ := id HW
  have hweq : ∀ d ∈ StrChars.Road.wordsEq, d.before a0 Z = true := fun d hd => hw d ((by decide +kernel : ∀ d ∈ StrChars.Road.wordsEq, d ∈ tables_1) d hd)
  obtain ⟨_, _, ⟨T1, L1, k1, n1⟩, -, X1, ⟨Lc1, hQ1, l1, y1, z1⟩, st1⟩ := Jvm.LawKit.callS X0 hx (y := (⟨"java/util/Optional", "empty", "()Ljava/util/Optional;"⟩ : MethodName)) hown (mvT hZ (hw _ (List.mem_of_getElem? (i := 87) rfl))) (mvT hZ (hw _ (List.mem_of_getElem? (i := 88) rfl))) (mvT hZ (hw _ (List.mem_of_getElem? (i := 89) rfl))) (mvT hZ (hw _ (List.mem_of_getElem? (i := 90) rfl))) (by decide) (backOf (W := 0) (rm19 l Z a0 hw [] em h0 n0 Z0 SE) hZ (hw _ (List.mem_of_getElem? (i := 90) rfl)) (hw _ (List.mem_of_getElem? (i := 89) rfl)) (by decide) (by decide)) (g := (mkF m 0 #[.val (.ref u0), .unset, .unset, .unset, .unset, .unset] [])) rfl (by rw [hml]; rfl) (argsL := []) (rest := []) (lenOf pd_6 rfl) rfl (by show 2 * 0 + _ ≤ _; exact Nat.le_of_eq rfl) (hb hby d18_0) (fun _ _ => ⟨rfl, e0, (by decide : 0 + 0 ≤ _), (by decide : 0 + 0 ≤ _)⟩)
  dsimp only [Pt.U, Pt.locs, Pt.cells, Pt.slots] at X1 l1 y1 z1 st1 hQ1
  rw [l1, y1, z1] at X1
  obtain ⟨rfl, N1q, e1⟩ := hQ1
  have N1 := Fr.app N0 N1q
  obtain ⟨_, _, ⟨T2, L2, k2, n2⟩, -, X2, ⟨Lc2, hQ2, l2, y2, z2⟩, st2⟩ := Jvm.LawKit.callS X1 hx (y := (⟨"com/example/ensyn/ensyn/region/NetClass", "values", "()[Lcom/example/ensyn/ensyn/region/NetClass;"⟩ : MethodName)) hown (mvT hZ (hw _ (List.mem_of_getElem? (i := 92) rfl))) (mvT hZ (hw _ (List.mem_of_getElem? (i := 93) rfl))) (mvT hZ (hw _ (List.mem_of_getElem? (i := 85) rfl))) (mvT hZ (hw _ (List.mem_of_getElem? (i := 94) rfl))) (by decide) (backOf (W := 0) (rm20 l Z a0 hw [] A va kv dv h0 n0 Z0 SV wa1 wa2) hZ (hw _ (List.mem_of_getElem? (i := 94) rfl)) (hw _ (List.mem_of_getElem? (i := 85) rfl)) (by decide) (by decide)) (g := (mkF m 4 #[.val (.ref u0), .val (.ref em), .unset, .unset, .unset, .unset] [])) rfl (by rw [hml]; rfl) (argsL := []) (rest := []) (lenOf pd_7 rfl) rfl (by show 2 * 0 + _ ≤ _; exact Nat.le_of_eq rfl) (hb hby d18_4) (fun _ _ => ⟨rfl, e1, (by decide : 0 + 1 ≤ _), (by decide : 0 + 4 ≤ _)⟩)
  dsimp only [Pt.U, Pt.locs, Pt.cells, Pt.slots] at X2 l2 y2 z2 st2 hQ2
  rw [l2, y2, z2] at X2
  obtain ⟨b2, rfl, N2q, K2q, VI2⟩ := hQ2
  have N2 := Fr.app N1 N2q
  have Z2 : n0 ≤ T2.heap.size := Nat.le_trans Z0 K2q.1
  have Kp2 := (Keep.refl h0 []).trans K2q (fun x hx => nomatch hx)
  obtain ⟨cl3, Ar3, qq3, S3, M3, H3, G3⟩ := id VI2
  obtain ⟨cl4, Ar4, qq4, S4, M4, H4, G4⟩ := id VI2
  have hin4 : ¬ ((0 : Int32) < 0 ∨ cl4.slots.size ≤ ((0 : Int32)).toNatClampNeg) := inb_of S4 ⟨by decide, by decide⟩
  have hat4 : cl4.slots[((0 : Int32)).toNatClampNeg]? = some (.ref (A 0)) := H4 0 (by rw [S4]; decide)
  obtain ⟨T5, X5, e5, st5⟩ := getF X2 hx hZ hown (host := "") (Or.inl (hw _ (List.mem_of_getElem? (i := 111) rfl))) Via.refl rfl (wf0.keep K2q (by simp)) (g := (mkF m 28 #[.val (.ref u0), .val (.ref em), .val (.ref b2), .val (.int (4 : Int32)), .val (.int (0 : Int32)), .val (.ref (A 0))] [(.ref (A 0))])) rfl rfl (hb hby d18_28)
  obtain ⟨cq6, kq6, q6a, q6b, q6c⟩ := isOf hZ e5 (own_Str.exa (wt0.keep0 K2q))
  obtain ⟨_, _, ⟨T6, L6, k6, n6⟩, -, X6, ⟨Lc6, hQ6, l6, y6, z6⟩, st6⟩ := X5.virtualBack hx (y := (⟨"java/lang/String", "equals", "(Ljava/lang/Object;)Z"⟩ : MethodName)) (z := (⟨"java/lang/String", "equals", "(Ljava/lang/Object;)Z"⟩ : MethodName)) hown (mvT hZ (hw _ (List.mem_of_getElem? (i := 113) rfl))) (mvT hZ (hw _ (List.mem_of_getElem? (i := 75) rfl))) (notFace_of_selects (args := #[]) (mvT hZ (hw _ (List.mem_of_getElem? (i := 77) rfl)))) (mvT hZ (hw _ (List.mem_of_getElem? (i := 77) rfl))) (mvT hZ (hw _ (List.mem_of_getElem? (i := 76) rfl))) (by decide) (own_eqB (W := 0) hZ hweq (hw _ (List.mem_of_getElem? (i := 2) rfl)) (wt0.keep0 K2q) (HT.keep0 K2q) (SCS.ext (own_extK K2q)) hcs (by decide) (by decide)) q6a q6c (g := (mkF m 32 #[.val (.ref u0), .val (.ref em), .val (.ref b2), .val (.int (4 : Int32)), .val (.int (0 : Int32)), .val (.ref (A 0))] [(.ref u0), (.ref (NM 0))])) rfl (by rw [hml]; rfl) (Steps.refl _) (argsL := [(.ref u0)]) (rest := []) (lenOf pd_8 rfl) rfl (by show 2 * 0 + _ ≤ _; exact Nat.le_of_eq rfl) (hb hby d18_32) (fun _ _ => ⟨rfl, e5, (by decide : 1 + 0 ≤ _), (by decide : 4 + 0 ≤ _)⟩)
  dsimp only [Pt.U, Pt.locs, Pt.cells, Pt.slots] at X6 l6 y6 z6 st6 hQ6
  rw [l6, y6, z6] at X6
  obtain ⟨rfl, rfl, e6⟩ := hQ6
  have N6 := Fr.app N2 (Fr.nil n0)
  have K7 : ∀ target, Steps p.tables e below (T6.setTop (mkF m 35 #[.val (.ref u0), .val (.ref em), .val (.ref b2), .val (.int (4 : Int32)), .val (.int (0 : Int32)), .val (.ref (A 0))] [(.int (if own_c0 = cs then (1 : Int32) else (0 : Int32)))])) target → Steps p.tables e below (s₁.setTop (mkF m 0 #[.val (.ref u0), .unset, .unset, .unset, .unset, .unset] [])) target := by
    intro target kt
    show Steps p.tables e below (s₁.setTop (mkF m 0 #[.val (.ref u0), .unset, .unset, .unset, .unset, .unset] [])) _
    refine st1 _ ?_
    show Steps p.tables e below (T1.setTop (mkF m 3 #[.val (.ref u0), .unset, .unset, .unset, .unset, .unset] [(.ref em)])) _
    refine XS.astoreN X1.here hx rfl (hb hby d18_3) rfl rfl (l' := #[.val (.ref u0), .val (.ref em), .unset, .unset, .unset, .unset]) rfl ?_
    show Steps p.tables e below (T1.setTop (mkF m 4 #[.val (.ref u0), .val (.ref em), .unset, .unset, .unset, .unset] [])) _
    refine st2 _ ?_
    show Steps p.tables e below (T2.setTop (mkF m 7 #[.val (.ref u0), .val (.ref em), .unset, .unset, .unset, .unset] [(.ref b2)])) _
    refine XS.astoreN X2.here hx rfl (hb hby d18_7) rfl rfl (l' := #[.val (.ref u0), .val (.ref em), .val (.ref b2), .unset, .unset, .unset]) rfl ?_
    show Steps p.tables e below (T2.setTop (mkF m 8 #[.val (.ref u0), .val (.ref em), .val (.ref b2), .unset, .unset, .unset] [])) _
    refine XS.aloadN X2.here hx rfl (hb hby d18_8) rfl rfl ?_
    show Steps p.tables e below (T2.setTop (mkF m 9 #[.val (.ref u0), .val (.ref em), .val (.ref b2), .unset, .unset, .unset] [(.ref b2)])) _
    refine X2.arraylength hx Ar3.1 (State.isArrayOf_alike hZ.alike Ar3.2.1) (g := (mkF m 9 #[.val (.ref u0), .val (.ref em), .val (.ref b2), .unset, .unset, .unset] [(.ref b2)])) rfl rfl (hb hby d18_9) _ ?_
    rw [len_of S3 M3]
    show Steps p.tables e below (T2.setTop (mkF m 10 #[.val (.ref u0), .val (.ref em), .val (.ref b2), .unset, .unset, .unset] [(.int (4 : Int32))])) _
    refine XS.istoreN X2.here hx rfl (hb hby d18_10) rfl (l' := #[.val (.ref u0), .val (.ref em), .val (.ref b2), .val (.int (4 : Int32)), .unset, .unset]) rfl ?_
    show Steps p.tables e below (T2.setTop (mkF m 11 #[.val (.ref u0), .val (.ref em), .val (.ref b2), .val (.int (4 : Int32)), .unset, .unset] [])) _
    refine XS.iconst X2.here hx rfl (hb hby d18_11) ?_
    show Steps p.tables e below (T2.setTop (mkF m 12 #[.val (.ref u0), .val (.ref em), .val (.ref b2), .val (.int (4 : Int32)), .unset, .unset] [(.int (0 : Int32))])) _
    refine XS.istore X2.here hx rfl (hb hby d18_12) rfl (l' := #[.val (.ref u0), .val (.ref em), .val (.ref b2), .val (.int (4 : Int32)), .val (.int (0 : Int32)), .unset]) rfl ?_
    show Steps p.tables e below (T2.setTop (mkF m 14 #[.val (.ref u0), .val (.ref em), .val (.ref b2), .val (.int (4 : Int32)), .val (.int (0 : Int32)), .unset] [])) _
    refine XS.iload X2.here hx rfl (hb hby d18_14) rfl ?_
    show Steps p.tables e below (T2.setTop (mkF m 16 #[.val (.ref u0), .val (.ref em), .val (.ref b2), .val (.int (4 : Int32)), .val (.int (0 : Int32)), .unset] [(.int (0 : Int32))])) _
    refine XS.iloadN X2.here hx rfl (hb hby d18_16) rfl ?_
    show Steps p.tables e below (T2.setTop (mkF m 17 #[.val (.ref u0), .val (.ref em), .val (.ref b2), .val (.int (4 : Int32)), .val (.int (0 : Int32)), .unset] [(.int (4 : Int32)), (.int (0 : Int32))])) _
    refine XS.icmpNo X2.here hx rfl (hb hby d18_17) rfl (tlt (by decide : (0 : Int32) < (4 : Int32))).2.1 ?_
    show Steps p.tables e below (T2.setTop (mkF m 20 #[.val (.ref u0), .val (.ref em), .val (.ref b2), .val (.int (4 : Int32)), .val (.int (0 : Int32)), .unset] [])) _
    refine XS.aloadN X2.here hx rfl (hb hby d18_20) rfl rfl ?_
    show Steps p.tables e below (T2.setTop (mkF m 21 #[.val (.ref u0), .val (.ref em), .val (.ref b2), .val (.int (4 : Int32)), .val (.int (0 : Int32)), .unset] [(.ref b2)])) _
    refine XS.iload X2.here hx rfl (hb hby d18_21) rfl ?_
    show Steps p.tables e below (T2.setTop (mkF m 23 #[.val (.ref u0), .val (.ref em), .val (.ref b2), .val (.int (4 : Int32)), .val (.int (0 : Int32)), .unset] [(.int (0 : Int32)), (.ref b2)])) _
    refine X2.aaload hx (j := (0 : Int32)) (v := (.ref (A 0))) Ar4.1 (State.isArrayOf_alike hZ.alike Ar4.2.1) rfl Ar4.2.2 hin4 hat4 (g := (mkF m 23 #[.val (.ref u0), .val (.ref em), .val (.ref b2), .val (.int (4 : Int32)), .val (.int (0 : Int32)), .unset] [(.int (0 : Int32)), (.ref b2)])) rfl rfl (hb hby d18_23) _ ?_
    show Steps p.tables e below (T2.setTop (mkF m 24 #[.val (.ref u0), .val (.ref em), .val (.ref b2), .val (.int (4 : Int32)), .val (.int (0 : Int32)), .unset] [(.ref (A 0))])) _
    refine XS.astore X2.here hx rfl (hb hby d18_24) rfl rfl (l' := #[.val (.ref u0), .val (.ref em), .val (.ref b2), .val (.int (4 : Int32)), .val (.int (0 : Int32)), .val (.ref (A 0))]) rfl ?_
    show Steps p.tables e below (T2.setTop (mkF m 26 #[.val (.ref u0), .val (.ref em), .val (.ref b2), .val (.int (4 : Int32)), .val (.int (0 : Int32)), .val (.ref (A 0))] [])) _
    refine XS.aload X2.here hx rfl (hb hby d18_26) rfl rfl ?_
    show Steps p.tables e below (T2.setTop (mkF m 28 #[.val (.ref u0), .val (.ref em), .val (.ref b2), .val (.int (4 : Int32)), .val (.int (0 : Int32)), .val (.ref (A 0))] [(.ref (A 0))])) _
    refine st5 _ ?_
    show Steps p.tables e below (T5.setTop (mkF m 31 #[.val (.ref u0), .val (.ref em), .val (.ref b2), .val (.int (4 : Int32)), .val (.int (0 : Int32)), .val (.ref (A 0))] [(.ref (NM 0))])) _
    refine XS.aloadN X5.here hx rfl (hb hby d18_31) rfl rfl ?_
    show Steps p.tables e below (T5.setTop (mkF m 32 #[.val (.ref u0), .val (.ref em), .val (.ref b2), .val (.int (4 : Int32)), .val (.int (0 : Int32)), .val (.ref (A 0))] [(.ref u0), (.ref (NM 0))])) _
    refine st6.trans ?_
    exact kt
  refine Done.of ?_ K7
  by_cases hc35_8 : (if own_c0 = cs then (1 : Int32) else (0 : Int32)) = (0 : Int32)
  · have K : ∀ target, Steps p.tables e below (T6.setTop (mkF m 44 #[.val (.ref u0), .val (.ref em), .val (.ref b2), .val (.int (4 : Int32)), .val (.int (0 : Int32)), .val (.ref (A 0))] [])) target → Steps p.tables e below (T6.setTop (mkF m 35 #[.val (.ref u0), .val (.ref em), .val (.ref b2), .val (.int (4 : Int32)), .val (.int (0 : Int32)), .val (.ref (A 0))] [(.int (if own_c0 = cs then (1 : Int32) else (0 : Int32)))])) target := by
      intro target kt
      refine XS.ifYes X6.here hx rfl (pc0 := 35) (pc' := 44) rfl (hb hby d18_35) rfl ((if0 _ _).trans (teq hc35_8).1) (by decide) (by decide) ?_
      exact kt
    refine Done.of ?_ K
    obtain ⟨cl9, Ar9, qq9, S9, M9, H9, G9⟩ := id VI2
    have hin9 : ¬ ((1 : Int32) < 0 ∨ cl9.slots.size ≤ ((1 : Int32)).toNatClampNeg) := inb_of S9 ⟨by decide, by decide⟩
    have hat9 : cl9.slots[((1 : Int32)).toNatClampNeg]? = some (.ref (A 1)) := H9 1 (by rw [S9]; decide)
    obtain ⟨T10, X10, e10, st10⟩ := getF X6 hx hZ hown (host := "") (Or.inl (hw _ (List.mem_of_getElem? (i := 111) rfl))) Via.refl e6 (wf1.keep K2q (by simp)) (g := (mkF m 28 #[.val (.ref u0), .val (.ref em), .val (.ref b2), .val (.int (4 : Int32)), .val (.int (1 : Int32)), .val (.ref (A 1))] [(.ref (A 1))])) rfl rfl (hb hby d18_28)
    obtain ⟨cq11, kq11, q11a, q11b, q11c⟩ := isOf hZ e10 (own_Str.exa (wt1.keep0 K2q))
    obtain ⟨_, _, ⟨T11, L11, k11, n11⟩, -, X11, ⟨Lc11, hQ11, l11, y11, z11⟩, st11⟩ := X10.virtualBack hx (y := (⟨"java/lang/String", "equals", "(Ljava/lang/Object;)Z"⟩ : MethodName)) (z := (⟨"java/lang/String", "equals", "(Ljava/lang/Object;)Z"⟩ : MethodName)) hown (mvT hZ (hw _ (List.mem_of_getElem? (i := 113) rfl))) (mvT hZ (hw _ (List.mem_of_getElem? (i := 75) rfl))) (notFace_of_selects (args := #[]) (mvT hZ (hw _ (List.mem_of_getElem? (i := 77) rfl)))) (mvT hZ (hw _ (List.mem_of_getElem? (i := 77) rfl))) (mvT hZ (hw _ (List.mem_of_getElem? (i := 76) rfl))) (by decide) (own_eqB (W := 0) hZ hweq (hw _ (List.mem_of_getElem? (i := 2) rfl)) (wt1.keep0 K2q) (HT.keep0 K2q) (SCS.ext (own_extK K2q)) hcs (by decide) (by decide)) q11a q11c (g := (mkF m 32 #[.val (.ref u0), .val (.ref em), .val (.ref b2), .val (.int (4 : Int32)), .val (.int (1 : Int32)), .val (.ref (A 1))] [(.ref u0), (.ref (NM 1))])) rfl (by rw [hml]; rfl) (Steps.refl _) (argsL := [(.ref u0)]) (rest := []) (lenOf pd_8 rfl) rfl (by show 2 * 0 + _ ≤ _; exact Nat.le_of_eq rfl) (hb hby d18_32) (fun _ _ => ⟨rfl, e10, (by decide : 1 + 0 ≤ _), (by decide : 4 + 0 ≤ _)⟩)
    dsimp only [Pt.U, Pt.locs, Pt.cells, Pt.slots] at X11 l11 y11 z11 st11 hQ11
    rw [l11, y11, z11] at X11
    obtain ⟨rfl, rfl, e11⟩ := hQ11
    have N11 := Fr.app N6 (Fr.nil n0)
    have K12 : ∀ target, Steps p.tables e below (T11.setTop (mkF m 35 #[.val (.ref u0), .val (.ref em), .val (.ref b2), .val (.int (4 : Int32)), .val (.int (1 : Int32)), .val (.ref (A 1))] [(.int (if own_c1 = cs then (1 : Int32) else (0 : Int32)))])) target → Steps p.tables e below (T6.setTop (mkF m 44 #[.val (.ref u0), .val (.ref em), .val (.ref b2), .val (.int (4 : Int32)), .val (.int (0 : Int32)), .val (.ref (A 0))] [])) target := by
      intro target kt
      show Steps p.tables e below (T6.setTop (mkF m 44 #[.val (.ref u0), .val (.ref em), .val (.ref b2), .val (.int (4 : Int32)), .val (.int (0 : Int32)), .val (.ref (A 0))] [])) _
      refine XS.iinc X6.here hx rfl (hb hby d18_44) rfl (l' := #[.val (.ref u0), .val (.ref em), .val (.ref b2), .val (.int (4 : Int32)), .val (.int ((0 : Int32) + (1 : Int32))), .val (.ref (A 0))]) rfl ?_
      rw [show ((0 : Int32) + (1 : Int32)) = (1 : Int32) from by decide]
      show Steps p.tables e below (T6.setTop (mkF m 47 #[.val (.ref u0), .val (.ref em), .val (.ref b2), .val (.int (4 : Int32)), .val (.int (1 : Int32)), .val (.ref (A 0))] [])) _
      refine XS.goto X6.here hx rfl (pc0 := 47) (pc' := 14) rfl (hb hby d18_47) (by decide) (by decide) ?_
      show Steps p.tables e below (T6.setTop (mkF m 14 #[.val (.ref u0), .val (.ref em), .val (.ref b2), .val (.int (4 : Int32)), .val (.int (1 : Int32)), .val (.ref (A 0))] [])) _
      refine XS.iload X6.here hx rfl (hb hby d18_14) rfl ?_
      show Steps p.tables e below (T6.setTop (mkF m 16 #[.val (.ref u0), .val (.ref em), .val (.ref b2), .val (.int (4 : Int32)), .val (.int (1 : Int32)), .val (.ref (A 0))] [(.int (1 : Int32))])) _
      refine XS.iloadN X6.here hx rfl (hb hby d18_16) rfl ?_
      show Steps p.tables e below (T6.setTop (mkF m 17 #[.val (.ref u0), .val (.ref em), .val (.ref b2), .val (.int (4 : Int32)), .val (.int (1 : Int32)), .val (.ref (A 0))] [(.int (4 : Int32)), (.int (1 : Int32))])) _
      refine XS.icmpNo X6.here hx rfl (hb hby d18_17) rfl (tlt (by decide : (1 : Int32) < (4 : Int32))).2.1 ?_
      show Steps p.tables e below (T6.setTop (mkF m 20 #[.val (.ref u0), .val (.ref em), .val (.ref b2), .val (.int (4 : Int32)), .val (.int (1 : Int32)), .val (.ref (A 0))] [])) _
      refine XS.aloadN X6.here hx rfl (hb hby d18_20) rfl rfl ?_
      show Steps p.tables e below (T6.setTop (mkF m 21 #[.val (.ref u0), .val (.ref em), .val (.ref b2), .val (.int (4 : Int32)), .val (.int (1 : Int32)), .val (.ref (A 0))] [(.ref b2)])) _
      refine XS.iload X6.here hx rfl (hb hby d18_21) rfl ?_
      show Steps p.tables e below (T6.setTop (mkF m 23 #[.val (.ref u0), .val (.ref em), .val (.ref b2), .val (.int (4 : Int32)), .val (.int (1 : Int32)), .val (.ref (A 0))] [(.int (1 : Int32)), (.ref b2)])) _
      refine X6.aaload hx (j := (1 : Int32)) (v := (.ref (A 1))) (by rw [e6]; exact Ar9.1) (State.isArrayOf_alike hZ.alike Ar9.2.1) rfl Ar9.2.2 hin9 hat9 (g := (mkF m 23 #[.val (.ref u0), .val (.ref em), .val (.ref b2), .val (.int (4 : Int32)), .val (.int (1 : Int32)), .val (.ref (A 0))] [(.int (1 : Int32)), (.ref b2)])) rfl rfl (hb hby d18_23) _ ?_
      show Steps p.tables e below (T6.setTop (mkF m 24 #[.val (.ref u0), .val (.ref em), .val (.ref b2), .val (.int (4 : Int32)), .val (.int (1 : Int32)), .val (.ref (A 0))] [(.ref (A 1))])) _
      refine XS.astore X6.here hx rfl (hb hby d18_24) rfl rfl (l' := #[.val (.ref u0), .val (.ref em), .val (.ref b2), .val (.int (4 : Int32)), .val (.int (1 : Int32)), .val (.ref (A 1))]) rfl ?_
      show Steps p.tables e below (T6.setTop (mkF m 26 #[.val (.ref u0), .val (.ref em), .val (.ref b2), .val (.int (4 : Int32)), .val (.int (1 : Int32)), .val (.ref (A 1))] [])) _
      refine XS.aload X6.here hx rfl (hb hby d18_26) rfl rfl ?_
      show Steps p.tables e below (T6.setTop (mkF m 28 #[.val (.ref u0), .val (.ref em), .val (.ref b2), .val (.int (4 : Int32)), .val (.int (1 : Int32)), .val (.ref (A 1))] [(.ref (A 1))])) _
      refine st10 _ ?_
      show Steps p.tables e below (T10.setTop (mkF m 31 #[.val (.ref u0), .val (.ref em), .val (.ref b2), .val (.int (4 : Int32)), .val (.int (1 : Int32)), .val (.ref (A 1))] [(.ref (NM 1))])) _
      refine XS.aloadN X10.here hx rfl (hb hby d18_31) rfl rfl ?_
      show Steps p.tables e below (T10.setTop (mkF m 32 #[.val (.ref u0), .val (.ref em), .val (.ref b2), .val (.int (4 : Int32)), .val (.int (1 : Int32)), .val (.ref (A 1))] [(.ref u0), (.ref (NM 1))])) _
      refine st11.trans ?_
      exact kt
    refine Done.of ?_ K12
    by_cases hc35_13 : (if own_c1 = cs then (1 : Int32) else (0 : Int32)) = (0 : Int32)
    · have K : ∀ target, Steps p.tables e below (T11.setTop (mkF m 44 #[.val (.ref u0), .val (.ref em), .val (.ref b2), .val (.int (4 : Int32)), .val (.int (1 : Int32)), .val (.ref (A 1))] [])) target → Steps p.tables e below (T11.setTop (mkF m 35 #[.val (.ref u0), .val (.ref em), .val (.ref b2), .val (.int (4 : Int32)), .val (.int (1 : Int32)), .val (.ref (A 1))] [(.int (if own_c1 = cs then (1 : Int32) else (0 : Int32)))])) target := by
        intro target kt
        refine XS.ifYes X11.here hx rfl (pc0 := 35) (pc' := 44) rfl (hb hby d18_35) rfl ((if0 _ _).trans (teq hc35_13).1) (by decide) (by decide) ?_
        exact kt
      refine Done.of ?_ K
      obtain ⟨cl14, Ar14, qq14, S14, M14, H14, G14⟩ := id VI2
      have hin14 : ¬ ((2 : Int32) < 0 ∨ cl14.slots.size ≤ ((2 : Int32)).toNatClampNeg) := inb_of S14 ⟨by decide, by decide⟩
      have hat14 : cl14.slots[((2 : Int32)).toNatClampNeg]? = some (.ref (A 2)) := H14 2 (by rw [S14]; decide)
      obtain ⟨T15, X15, e15, st15⟩ := getF X11 hx hZ hown (host := "") (Or.inl (hw _ (List.mem_of_getElem? (i := 111) rfl))) Via.refl e11 (wf2.keep K2q (by simp)) (g := (mkF m 28 #[.val (.ref u0), .val (.ref em), .val (.ref b2), .val (.int (4 : Int32)), .val (.int (2 : Int32)), .val (.ref (A 2))] [(.ref (A 2))])) rfl rfl (hb hby d18_28)
      obtain ⟨cq16, kq16, q16a, q16b, q16c⟩ := isOf hZ e15 (own_Str.exa (wt2.keep0 K2q))
      obtain ⟨_, _, ⟨T16, L16, k16, n16⟩, -, X16, ⟨Lc16, hQ16, l16, y16, z16⟩, st16⟩ := X15.virtualBack hx (y := (⟨"java/lang/String", "equals", "(Ljava/lang/Object;)Z"⟩ : MethodName)) (z := (⟨"java/lang/String", "equals", "(Ljava/lang/Object;)Z"⟩ : MethodName)) hown (mvT hZ (hw _ (List.mem_of_getElem? (i := 113) rfl))) (mvT hZ (hw _ (List.mem_of_getElem? (i := 75) rfl))) (notFace_of_selects (args := #[]) (mvT hZ (hw _ (List.mem_of_getElem? (i := 77) rfl)))) (mvT hZ (hw _ (List.mem_of_getElem? (i := 77) rfl))) (mvT hZ (hw _ (List.mem_of_getElem? (i := 76) rfl))) (by decide) (own_eqB (W := 0) hZ hweq (hw _ (List.mem_of_getElem? (i := 2) rfl)) (wt2.keep0 K2q) (HT.keep0 K2q) (SCS.ext (own_extK K2q)) hcs (by decide) (by decide)) q16a q16c (g := (mkF m 32 #[.val (.ref u0), .val (.ref em), .val (.ref b2), .val (.int (4 : Int32)), .val (.int (2 : Int32)), .val (.ref (A 2))] [(.ref u0), (.ref (NM 2))])) rfl (by rw [hml]; rfl) (Steps.refl _) (argsL := [(.ref u0)]) (rest := []) (lenOf pd_8 rfl) rfl (by show 2 * 0 + _ ≤ _; exact Nat.le_of_eq rfl) (hb hby d18_32) (fun _ _ => ⟨rfl, e15, (by decide : 1 + 0 ≤ _), (by decide : 4 + 0 ≤ _)⟩)
      dsimp only [Pt.U, Pt.locs, Pt.cells, Pt.slots] at X16 l16 y16 z16 st16 hQ16
      rw [l16, y16, z16] at X16
      obtain ⟨rfl, rfl, e16⟩ := hQ16
      have N16 := Fr.app N11 (Fr.nil n0)
      have K17 : ∀ target, Steps p.tables e below (T16.setTop (mkF m 35 #[.val (.ref u0), .val (.ref em), .val (.ref b2), .val (.int (4 : Int32)), .val (.int (2 : Int32)), .val (.ref (A 2))] [(.int (if own_c2 = cs then (1 : Int32) else (0 : Int32)))])) target → Steps p.tables e below (T11.setTop (mkF m 44 #[.val (.ref u0), .val (.ref em), .val (.ref b2), .val (.int (4 : Int32)), .val (.int (1 : Int32)), .val (.ref (A 1))] [])) target := by
        intro target kt
        show Steps p.tables e below (T11.setTop (mkF m 44 #[.val (.ref u0), .val (.ref em), .val (.ref b2), .val (.int (4 : Int32)), .val (.int (1 : Int32)), .val (.ref (A 1))] [])) _
        refine XS.iinc X11.here hx rfl (hb hby d18_44) rfl (l' := #[.val (.ref u0), .val (.ref em), .val (.ref b2), .val (.int (4 : Int32)), .val (.int ((1 : Int32) + (1 : Int32))), .val (.ref (A 1))]) rfl ?_
        rw [show ((1 : Int32) + (1 : Int32)) = (2 : Int32) from by decide]
        show Steps p.tables e below (T11.setTop (mkF m 47 #[.val (.ref u0), .val (.ref em), .val (.ref b2), .val (.int (4 : Int32)), .val (.int (2 : Int32)), .val (.ref (A 1))] [])) _
        refine XS.goto X11.here hx rfl (pc0 := 47) (pc' := 14) rfl (hb hby d18_47) (by decide) (by decide) ?_
        show Steps p.tables e below (T11.setTop (mkF m 14 #[.val (.ref u0), .val (.ref em), .val (.ref b2), .val (.int (4 : Int32)), .val (.int (2 : Int32)), .val (.ref (A 1))] [])) _
        refine XS.iload X11.here hx rfl (hb hby d18_14) rfl ?_
        show Steps p.tables e below (T11.setTop (mkF m 16 #[.val (.ref u0), .val (.ref em), .val (.ref b2), .val (.int (4 : Int32)), .val (.int (2 : Int32)), .val (.ref (A 1))] [(.int (2 : Int32))])) _
        refine XS.iloadN X11.here hx rfl (hb hby d18_16) rfl ?_
        show Steps p.tables e below (T11.setTop (mkF m 17 #[.val (.ref u0), .val (.ref em), .val (.ref b2), .val (.int (4 : Int32)), .val (.int (2 : Int32)), .val (.ref (A 1))] [(.int (4 : Int32)), (.int (2 : Int32))])) _
        refine XS.icmpNo X11.here hx rfl (hb hby d18_17) rfl (tlt (by decide : (2 : Int32) < (4 : Int32))).2.1 ?_
        show Steps p.tables e below (T11.setTop (mkF m 20 #[.val (.ref u0), .val (.ref em), .val (.ref b2), .val (.int (4 : Int32)), .val (.int (2 : Int32)), .val (.ref (A 1))] [])) _
        refine XS.aloadN X11.here hx rfl (hb hby d18_20) rfl rfl ?_
        show Steps p.tables e below (T11.setTop (mkF m 21 #[.val (.ref u0), .val (.ref em), .val (.ref b2), .val (.int (4 : Int32)), .val (.int (2 : Int32)), .val (.ref (A 1))] [(.ref b2)])) _
        refine XS.iload X11.here hx rfl (hb hby d18_21) rfl ?_
        show Steps p.tables e below (T11.setTop (mkF m 23 #[.val (.ref u0), .val (.ref em), .val (.ref b2), .val (.int (4 : Int32)), .val (.int (2 : Int32)), .val (.ref (A 1))] [(.int (2 : Int32)), (.ref b2)])) _
        refine X11.aaload hx (j := (2 : Int32)) (v := (.ref (A 2))) (by rw [e11]; exact Ar14.1) (State.isArrayOf_alike hZ.alike Ar14.2.1) rfl Ar14.2.2 hin14 hat14 (g := (mkF m 23 #[.val (.ref u0), .val (.ref em), .val (.ref b2), .val (.int (4 : Int32)), .val (.int (2 : Int32)), .val (.ref (A 1))] [(.int (2 : Int32)), (.ref b2)])) rfl rfl (hb hby d18_23) _ ?_
        show Steps p.tables e below (T11.setTop (mkF m 24 #[.val (.ref u0), .val (.ref em), .val (.ref b2), .val (.int (4 : Int32)), .val (.int (2 : Int32)), .val (.ref (A 1))] [(.ref (A 2))])) _
        refine XS.astore X11.here hx rfl (hb hby d18_24) rfl rfl (l' := #[.val (.ref u0), .val (.ref em), .val (.ref b2), .val (.int (4 : Int32)), .val (.int (2 : Int32)), .val (.ref (A 2))]) rfl ?_
        show Steps p.tables e below (T11.setTop (mkF m 26 #[.val (.ref u0), .val (.ref em), .val (.ref b2), .val (.int (4 : Int32)), .val (.int (2 : Int32)), .val (.ref (A 2))] [])) _
        refine XS.aload X11.here hx rfl (hb hby d18_26) rfl rfl ?_
        show Steps p.tables e below (T11.setTop (mkF m 28 #[.val (.ref u0), .val (.ref em), .val (.ref b2), .val (.int (4 : Int32)), .val (.int (2 : Int32)), .val (.ref (A 2))] [(.ref (A 2))])) _
        refine st15 _ ?_
        show Steps p.tables e below (T15.setTop (mkF m 31 #[.val (.ref u0), .val (.ref em), .val (.ref b2), .val (.int (4 : Int32)), .val (.int (2 : Int32)), .val (.ref (A 2))] [(.ref (NM 2))])) _
        refine XS.aloadN X15.here hx rfl (hb hby d18_31) rfl rfl ?_
        show Steps p.tables e below (T15.setTop (mkF m 32 #[.val (.ref u0), .val (.ref em), .val (.ref b2), .val (.int (4 : Int32)), .val (.int (2 : Int32)), .val (.ref (A 2))] [(.ref u0), (.ref (NM 2))])) _
        refine st16.trans ?_
        exact kt
      refine Done.of ?_ K17
      by_cases hc35_18 : (if own_c2 = cs then (1 : Int32) else (0 : Int32)) = (0 : Int32)
      · have K : ∀ target, Steps p.tables e below (T16.setTop (mkF m 44 #[.val (.ref u0), .val (.ref em), .val (.ref b2), .val (.int (4 : Int32)), .val (.int (2 : Int32)), .val (.ref (A 2))] [])) target → Steps p.tables e below (T16.setTop (mkF m 35 #[.val (.ref u0), .val (.ref em), .val (.ref b2), .val (.int (4 : Int32)), .val (.int (2 : Int32)), .val (.ref (A 2))] [(.int (if own_c2 = cs then (1 : Int32) else (0 : Int32)))])) target := by
          intro target kt
          refine XS.ifYes X16.here hx rfl (pc0 := 35) (pc' := 44) rfl (hb hby d18_35) rfl ((if0 _ _).trans (teq hc35_18).1) (by decide) (by decide) ?_
          exact kt
        refine Done.of ?_ K
        obtain ⟨cl19, Ar19, qq19, S19, M19, H19, G19⟩ := id VI2
        have hin19 : ¬ ((3 : Int32) < 0 ∨ cl19.slots.size ≤ ((3 : Int32)).toNatClampNeg) := inb_of S19 ⟨by decide, by decide⟩
        have hat19 : cl19.slots[((3 : Int32)).toNatClampNeg]? = some (.ref (A 3)) := H19 3 (by rw [S19]; decide)
        obtain ⟨T20, X20, e20, st20⟩ := getF X16 hx hZ hown (host := "") (Or.inl (hw _ (List.mem_of_getElem? (i := 111) rfl))) Via.refl e16 (wf3.keep K2q (by simp)) (g := (mkF m 28 #[.val (.ref u0), .val (.ref em), .val (.ref b2), .val (.int (4 : Int32)), .val (.int (3 : Int32)), .val (.ref (A 3))] [(.ref (A 3))])) rfl rfl (hb hby d18_28)
        obtain ⟨cq21, kq21, q21a, q21b, q21c⟩ := isOf hZ e20 (own_Str.exa (wt3.keep0 K2q))
        obtain ⟨_, _, ⟨T21, L21, k21, n21⟩, -, X21, ⟨Lc21, hQ21, l21, y21, z21⟩, st21⟩ := X20.virtualBack hx (y := (⟨"java/lang/String", "equals", "(Ljava/lang/Object;)Z"⟩ : MethodName)) (z := (⟨"java/lang/String", "equals", "(Ljava/lang/Object;)Z"⟩ : MethodName)) hown (mvT hZ (hw _ (List.mem_of_getElem? (i := 113) rfl))) (mvT hZ (hw _ (List.mem_of_getElem? (i := 75) rfl))) (notFace_of_selects (args := #[]) (mvT hZ (hw _ (List.mem_of_getElem? (i := 77) rfl)))) (mvT hZ (hw _ (List.mem_of_getElem? (i := 77) rfl))) (mvT hZ (hw _ (List.mem_of_getElem? (i := 76) rfl))) (by decide) (own_eqB (W := 0) hZ hweq (hw _ (List.mem_of_getElem? (i := 2) rfl)) (wt3.keep0 K2q) (HT.keep0 K2q) (SCS.ext (own_extK K2q)) hcs (by decide) (by decide)) q21a q21c (g := (mkF m 32 #[.val (.ref u0), .val (.ref em), .val (.ref b2), .val (.int (4 : Int32)), .val (.int (3 : Int32)), .val (.ref (A 3))] [(.ref u0), (.ref (NM 3))])) rfl (by rw [hml]; rfl) (Steps.refl _) (argsL := [(.ref u0)]) (rest := []) (lenOf pd_8 rfl) rfl (by show 2 * 0 + _ ≤ _; exact Nat.le_of_eq rfl) (hb hby d18_32) (fun _ _ => ⟨rfl, e20, (by decide : 1 + 0 ≤ _), (by decide : 4 + 0 ≤ _)⟩)
        dsimp only [Pt.U, Pt.locs, Pt.cells, Pt.slots] at X21 l21 y21 z21 st21 hQ21
        rw [l21, y21, z21] at X21
        obtain ⟨rfl, rfl, e21⟩ := hQ21
        have N21 := Fr.app N16 (Fr.nil n0)
        have K22 : ∀ target, Steps p.tables e below (T21.setTop (mkF m 35 #[.val (.ref u0), .val (.ref em), .val (.ref b2), .val (.int (4 : Int32)), .val (.int (3 : Int32)), .val (.ref (A 3))] [(.int (if own_c3 = cs then (1 : Int32) else (0 : Int32)))])) target → Steps p.tables e below (T16.setTop (mkF m 44 #[.val (.ref u0), .val (.ref em), .val (.ref b2), .val (.int (4 : Int32)), .val (.int (2 : Int32)), .val (.ref (A 2))] [])) target := by
          intro target kt
          show Steps p.tables e below (T16.setTop (mkF m 44 #[.val (.ref u0), .val (.ref em), .val (.ref b2), .val (.int (4 : Int32)), .val (.int (2 : Int32)), .val (.ref (A 2))] [])) _
          refine XS.iinc X16.here hx rfl (hb hby d18_44) rfl (l' := #[.val (.ref u0), .val (.ref em), .val (.ref b2), .val (.int (4 : Int32)), .val (.int ((2 : Int32) + (1 : Int32))), .val (.ref (A 2))]) rfl ?_
          rw [show ((2 : Int32) + (1 : Int32)) = (3 : Int32) from by decide]
          show Steps p.tables e below (T16.setTop (mkF m 47 #[.val (.ref u0), .val (.ref em), .val (.ref b2), .val (.int (4 : Int32)), .val (.int (3 : Int32)), .val (.ref (A 2))] [])) _
          refine XS.goto X16.here hx rfl (pc0 := 47) (pc' := 14) rfl (hb hby d18_47) (by decide) (by decide) ?_
          show Steps p.tables e below (T16.setTop (mkF m 14 #[.val (.ref u0), .val (.ref em), .val (.ref b2), .val (.int (4 : Int32)), .val (.int (3 : Int32)), .val (.ref (A 2))] [])) _
          refine XS.iload X16.here hx rfl (hb hby d18_14) rfl ?_
          show Steps p.tables e below (T16.setTop (mkF m 16 #[.val (.ref u0), .val (.ref em), .val (.ref b2), .val (.int (4 : Int32)), .val (.int (3 : Int32)), .val (.ref (A 2))] [(.int (3 : Int32))])) _
          refine XS.iloadN X16.here hx rfl (hb hby d18_16) rfl ?_
          show Steps p.tables e below (T16.setTop (mkF m 17 #[.val (.ref u0), .val (.ref em), .val (.ref b2), .val (.int (4 : Int32)), .val (.int (3 : Int32)), .val (.ref (A 2))] [(.int (4 : Int32)), (.int (3 : Int32))])) _
          refine XS.icmpNo X16.here hx rfl (hb hby d18_17) rfl (tlt (by decide : (3 : Int32) < (4 : Int32))).2.1 ?_
          show Steps p.tables e below (T16.setTop (mkF m 20 #[.val (.ref u0), .val (.ref em), .val (.ref b2), .val (.int (4 : Int32)), .val (.int (3 : Int32)), .val (.ref (A 2))] [])) _
          refine XS.aloadN X16.here hx rfl (hb hby d18_20) rfl rfl ?_
          show Steps p.tables e below (T16.setTop (mkF m 21 #[.val (.ref u0), .val (.ref em), .val (.ref b2), .val (.int (4 : Int32)), .val (.int (3 : Int32)), .val (.ref (A 2))] [(.ref b2)])) _
          refine XS.iload X16.here hx rfl (hb hby d18_21) rfl ?_
          show Steps p.tables e below (T16.setTop (mkF m 23 #[.val (.ref u0), .val (.ref em), .val (.ref b2), .val (.int (4 : Int32)), .val (.int (3 : Int32)), .val (.ref (A 2))] [(.int (3 : Int32)), (.ref b2)])) _
          refine X16.aaload hx (j := (3 : Int32)) (v := (.ref (A 3))) (by rw [e16]; exact Ar19.1) (State.isArrayOf_alike hZ.alike Ar19.2.1) rfl Ar19.2.2 hin19 hat19 (g := (mkF m 23 #[.val (.ref u0), .val (.ref em), .val (.ref b2), .val (.int (4 : Int32)), .val (.int (3 : Int32)), .val (.ref (A 2))] [(.int (3 : Int32)), (.ref b2)])) rfl rfl (hb hby d18_23) _ ?_
          show Steps p.tables e below (T16.setTop (mkF m 24 #[.val (.ref u0), .val (.ref em), .val (.ref b2), .val (.int (4 : Int32)), .val (.int (3 : Int32)), .val (.ref (A 2))] [(.ref (A 3))])) _
          refine XS.astore X16.here hx rfl (hb hby d18_24) rfl rfl (l' := #[.val (.ref u0), .val (.ref em), .val (.ref b2), .val (.int (4 : Int32)), .val (.int (3 : Int32)), .val (.ref (A 3))]) rfl ?_
          show Steps p.tables e below (T16.setTop (mkF m 26 #[.val (.ref u0), .val (.ref em), .val (.ref b2), .val (.int (4 : Int32)), .val (.int (3 : Int32)), .val (.ref (A 3))] [])) _
          refine XS.aload X16.here hx rfl (hb hby d18_26) rfl rfl ?_
          show Steps p.tables e below (T16.setTop (mkF m 28 #[.val (.ref u0), .val (.ref em), .val (.ref b2), .val (.int (4 : Int32)), .val (.int (3 : Int32)), .val (.ref (A 3))] [(.ref (A 3))])) _
          refine st20 _ ?_
          show Steps p.tables e below (T20.setTop (mkF m 31 #[.val (.ref u0), .val (.ref em), .val (.ref b2), .val (.int (4 : Int32)), .val (.int (3 : Int32)), .val (.ref (A 3))] [(.ref (NM 3))])) _
          refine XS.aloadN X20.here hx rfl (hb hby d18_31) rfl rfl ?_
          show Steps p.tables e below (T20.setTop (mkF m 32 #[.val (.ref u0), .val (.ref em), .val (.ref b2), .val (.int (4 : Int32)), .val (.int (3 : Int32)), .val (.ref (A 3))] [(.ref u0), (.ref (NM 3))])) _
          refine st21.trans ?_
          exact kt
        refine Done.of ?_ K22
        by_cases hc35_23 : (if own_c3 = cs then (1 : Int32) else (0 : Int32)) = (0 : Int32)
        · have K : ∀ target, Steps p.tables e below (T21.setTop (mkF m 44 #[.val (.ref u0), .val (.ref em), .val (.ref b2), .val (.int (4 : Int32)), .val (.int (3 : Int32)), .val (.ref (A 3))] [])) target → Steps p.tables e below (T21.setTop (mkF m 35 #[.val (.ref u0), .val (.ref em), .val (.ref b2), .val (.int (4 : Int32)), .val (.int (3 : Int32)), .val (.ref (A 3))] [(.int (if own_c3 = cs then (1 : Int32) else (0 : Int32)))])) target := by
            intro target kt
            refine XS.ifYes X21.here hx rfl (pc0 := 35) (pc' := 44) rfl (hb hby d18_35) rfl ((if0 _ _).trans (teq hc35_23).1) (by decide) (by decide) ?_
            exact kt
          refine Done.of ?_ K
          obtain ⟨fs, hr, hrun, hended, hW, hsame⟩ := X21.leave (v := some (.ref em)) (fun h => by rw [Bd.returns] at h; cases h)
          refine ⟨_, _, ?_, hrun, hended, _, _, rfl, ?_, ⟨_, rfl⟩, hW, hsame.mono (by decide) (by decide)⟩
          · show Steps p.tables e below (T21.setTop (mkF m 44 #[.val (.ref u0), .val (.ref em), .val (.ref b2), .val (.int (4 : Int32)), .val (.int (3 : Int32)), .val (.ref (A 3))] [])) _
            refine XS.iinc X21.here hx rfl (hb hby d18_44) rfl (l' := #[.val (.ref u0), .val (.ref em), .val (.ref b2), .val (.int (4 : Int32)), .val (.int ((3 : Int32) + (1 : Int32))), .val (.ref (A 3))]) rfl ?_
            rw [show ((3 : Int32) + (1 : Int32)) = (4 : Int32) from by decide]
            show Steps p.tables e below (T21.setTop (mkF m 47 #[.val (.ref u0), .val (.ref em), .val (.ref b2), .val (.int (4 : Int32)), .val (.int (4 : Int32)), .val (.ref (A 3))] [])) _
            refine XS.goto X21.here hx rfl (pc0 := 47) (pc' := 14) rfl (hb hby d18_47) (by decide) (by decide) ?_
            show Steps p.tables e below (T21.setTop (mkF m 14 #[.val (.ref u0), .val (.ref em), .val (.ref b2), .val (.int (4 : Int32)), .val (.int (4 : Int32)), .val (.ref (A 3))] [])) _
            refine XS.iload X21.here hx rfl (hb hby d18_14) rfl ?_
            show Steps p.tables e below (T21.setTop (mkF m 16 #[.val (.ref u0), .val (.ref em), .val (.ref b2), .val (.int (4 : Int32)), .val (.int (4 : Int32)), .val (.ref (A 3))] [(.int (4 : Int32))])) _
            refine XS.iloadN X21.here hx rfl (hb hby d18_16) rfl ?_
            show Steps p.tables e below (T21.setTop (mkF m 17 #[.val (.ref u0), .val (.ref em), .val (.ref b2), .val (.int (4 : Int32)), .val (.int (4 : Int32)), .val (.ref (A 3))] [(.int (4 : Int32)), (.int (4 : Int32))])) _
            refine XS.icmpYes X21.here hx rfl (pc0 := 17) (pc' := 50) rfl (hb hby d18_17) rfl (flt (by decide : ¬ ((4 : Int32) < (4 : Int32)))).2.1 (by decide) (by decide) ?_
            show Steps p.tables e below (T21.setTop (mkF m 50 #[.val (.ref u0), .val (.ref em), .val (.ref b2), .val (.int (4 : Int32)), .val (.int (4 : Int32)), .val (.ref (A 3))] [])) _
            refine XS.aloadN X21.here hx rfl (hb hby d18_50) rfl rfl ?_
            show Steps p.tables e below (T21.setTop (mkF m 51 #[.val (.ref u0), .val (.ref em), .val (.ref b2), .val (.int (4 : Int32)), .val (.int (4 : Int32)), .val (.ref (A 3))] [(.ref em)])) _
            jvm_step X21.here [X21.here.top, hx, (hb hby d18_51), X21.method', Bd.returns, Value.isRef, FieldType.isReference]
            first | (intro acts; rw [hr _ acts rfl rfl rfl]) | rw [hr _ _ rfl rfl rfl]
            exact Steps.refl _
          · show Q18 Z u0 A NM va em kv dv cs cz h0 n0 _ T21.heap _
            rw [e21]
            have OV : own_opt A cs = .null := by
              unfold own_opt
              rw [if_neg (own_if0 hc35_8), if_neg (own_if0 hc35_13), if_neg (own_if0 hc35_18), if_neg (own_if0 hc35_23)]
            have FO := (wa4.keep K2q (by simp))
            rw [← OV] at FO
            exact ⟨em, rfl, N21, Kp2, (wa3.keep K2q), FO⟩
        · have K : ∀ target, Steps p.tables e below (T21.setTop (mkF m 38 #[.val (.ref u0), .val (.ref em), .val (.ref b2), .val (.int (4 : Int32)), .val (.int (3 : Int32)), .val (.ref (A 3))] [])) target → Steps p.tables e below (T21.setTop (mkF m 35 #[.val (.ref u0), .val (.ref em), .val (.ref b2), .val (.int (4 : Int32)), .val (.int (3 : Int32)), .val (.ref (A 3))] [(.int (if own_c3 = cs then (1 : Int32) else (0 : Int32)))])) target := by
            intro target kt
            refine XS.ifNo X21.here hx rfl (hb hby d18_35) rfl ((if0 _ _).trans (feq hc35_23).1) ?_
            exact kt
          refine Done.of ?_ K
          obtain ⟨_, _, ⟨T24, L24, k24, n24⟩, -, X24, ⟨Lc24, hQ24, l24, y24, z24⟩, st24⟩ := Jvm.LawKit.callS X21 hx (y := (⟨"java/util/Optional", "of", "(Ljava/lang/Object;)Ljava/util/Optional;"⟩ : MethodName)) hown (mvT hZ (hw _ (List.mem_of_getElem? (i := 114) rfl))) (mvT hZ (hw _ (List.mem_of_getElem? (i := 115) rfl))) (mvT hZ (hw _ (List.mem_of_getElem? (i := 89) rfl))) (mvT hZ (hw _ (List.mem_of_getElem? (i := 116) rfl))) (by decide) (backOf (W := 0) (rm21 l Z a0 hw [] (A 3) T2.heap n0 Z2 ) hZ (hw _ (List.mem_of_getElem? (i := 116) rfl)) (hw _ (List.mem_of_getElem? (i := 89) rfl)) (by decide) (by decide)) (g := (mkF m 40 #[.val (.ref u0), .val (.ref em), .val (.ref b2), .val (.int (4 : Int32)), .val (.int (3 : Int32)), .val (.ref (A 3))] [(.ref (A 3))])) rfl (by rw [hml]; rfl) (argsL := [(.ref (A 3))]) (rest := []) (lenOf pd_9 rfl) rfl (by show 2 * 0 + _ ≤ _; exact Nat.le_of_eq rfl) (hb hby d18_40) (fun _ _ => ⟨rfl, e21, (by decide : 1 + 1 ≤ _), (by decide : 4 + 1 ≤ _)⟩)
          dsimp only [Pt.U, Pt.locs, Pt.cells, Pt.slots] at X24 l24 y24 z24 st24 hQ24
          rw [l24, y24, z24] at X24
          obtain ⟨b24, rfl, N24q, K24q, EI24, FI24⟩ := hQ24
          have N24 := Fr.app N21 N24q
          have Z24 : n0 ≤ T24.heap.size := Nat.le_trans Z2 K24q.1
          have Kp24 := Kp2.trans K24q (fun x hx => nomatch hx)
          obtain ⟨fs, hr, hrun, hended, hW, hsame⟩ := X24.leave (v := some (.ref b24)) (fun h => by rw [Bd.returns] at h; cases h)
          refine ⟨_, _, ?_, hrun, hended, _, _, rfl, ?_, ⟨_, rfl⟩, hW, hsame.mono (by decide) (by decide)⟩
          · show Steps p.tables e below (T21.setTop (mkF m 38 #[.val (.ref u0), .val (.ref em), .val (.ref b2), .val (.int (4 : Int32)), .val (.int (3 : Int32)), .val (.ref (A 3))] [])) _
            refine XS.aload X21.here hx rfl (hb hby d18_38) rfl rfl ?_
            show Steps p.tables e below (T21.setTop (mkF m 40 #[.val (.ref u0), .val (.ref em), .val (.ref b2), .val (.int (4 : Int32)), .val (.int (3 : Int32)), .val (.ref (A 3))] [(.ref (A 3))])) _
            refine st24 _ ?_
            show Steps p.tables e below (T24.setTop (mkF m 43 #[.val (.ref u0), .val (.ref em), .val (.ref b2), .val (.int (4 : Int32)), .val (.int (3 : Int32)), .val (.ref (A 3))] [(.ref b24)])) _
            refine XS.astoreN X24.here hx rfl (hb hby d18_43) rfl rfl (l' := #[.val (.ref u0), .val (.ref b24), .val (.ref b2), .val (.int (4 : Int32)), .val (.int (3 : Int32)), .val (.ref (A 3))]) rfl ?_
            show Steps p.tables e below (T24.setTop (mkF m 44 #[.val (.ref u0), .val (.ref b24), .val (.ref b2), .val (.int (4 : Int32)), .val (.int (3 : Int32)), .val (.ref (A 3))] [])) _
            refine XS.iinc X24.here hx rfl (hb hby d18_44) rfl (l' := #[.val (.ref u0), .val (.ref b24), .val (.ref b2), .val (.int (4 : Int32)), .val (.int ((3 : Int32) + (1 : Int32))), .val (.ref (A 3))]) rfl ?_
            rw [show ((3 : Int32) + (1 : Int32)) = (4 : Int32) from by decide]
            show Steps p.tables e below (T24.setTop (mkF m 47 #[.val (.ref u0), .val (.ref b24), .val (.ref b2), .val (.int (4 : Int32)), .val (.int (4 : Int32)), .val (.ref (A 3))] [])) _
            refine XS.goto X24.here hx rfl (pc0 := 47) (pc' := 14) rfl (hb hby d18_47) (by decide) (by decide) ?_
            show Steps p.tables e below (T24.setTop (mkF m 14 #[.val (.ref u0), .val (.ref b24), .val (.ref b2), .val (.int (4 : Int32)), .val (.int (4 : Int32)), .val (.ref (A 3))] [])) _
            refine XS.iload X24.here hx rfl (hb hby d18_14) rfl ?_
            show Steps p.tables e below (T24.setTop (mkF m 16 #[.val (.ref u0), .val (.ref b24), .val (.ref b2), .val (.int (4 : Int32)), .val (.int (4 : Int32)), .val (.ref (A 3))] [(.int (4 : Int32))])) _
            refine XS.iloadN X24.here hx rfl (hb hby d18_16) rfl ?_
            show Steps p.tables e below (T24.setTop (mkF m 17 #[.val (.ref u0), .val (.ref b24), .val (.ref b2), .val (.int (4 : Int32)), .val (.int (4 : Int32)), .val (.ref (A 3))] [(.int (4 : Int32)), (.int (4 : Int32))])) _
            refine XS.icmpYes X24.here hx rfl (pc0 := 17) (pc' := 50) rfl (hb hby d18_17) rfl (flt (by decide : ¬ ((4 : Int32) < (4 : Int32)))).2.1 (by decide) (by decide) ?_
            show Steps p.tables e below (T24.setTop (mkF m 50 #[.val (.ref u0), .val (.ref b24), .val (.ref b2), .val (.int (4 : Int32)), .val (.int (4 : Int32)), .val (.ref (A 3))] [])) _
            refine XS.aloadN X24.here hx rfl (hb hby d18_50) rfl rfl ?_
            show Steps p.tables e below (T24.setTop (mkF m 51 #[.val (.ref u0), .val (.ref b24), .val (.ref b2), .val (.int (4 : Int32)), .val (.int (4 : Int32)), .val (.ref (A 3))] [(.ref b24)])) _
            jvm_step X24.here [X24.here.top, hx, (hb hby d18_51), X24.method', Bd.returns, Value.isRef, FieldType.isReference]
            first | (intro acts; rw [hr _ acts rfl rfl rfl]) | rw [hr _ _ rfl rfl rfl]
            exact Steps.refl _
          · show Q18 Z u0 A NM va em kv dv cs cz h0 n0 _ T24.heap _
            have OV : own_opt A cs = (.ref (A 3)) := by
              unfold own_opt
              rw [if_neg (own_if0 hc35_8), if_neg (own_if0 hc35_13), if_neg (own_if0 hc35_18), if_pos (own_if1 hc35_23)]
            have FO := FI24
            rw [← OV] at FO
            exact ⟨b24, rfl, N24, Kp24, EI24, FO⟩
      · have K : ∀ target, Steps p.tables e below (T16.setTop (mkF m 38 #[.val (.ref u0), .val (.ref em), .val (.ref b2), .val (.int (4 : Int32)), .val (.int (2 : Int32)), .val (.ref (A 2))] [])) target → Steps p.tables e below (T16.setTop (mkF m 35 #[.val (.ref u0), .val (.ref em), .val (.ref b2), .val (.int (4 : Int32)), .val (.int (2 : Int32)), .val (.ref (A 2))] [(.int (if own_c2 = cs then (1 : Int32) else (0 : Int32)))])) target := by
          intro target kt
          refine XS.ifNo X16.here hx rfl (hb hby d18_35) rfl ((if0 _ _).trans (feq hc35_18).1) ?_
          exact kt
        refine Done.of ?_ K
        obtain ⟨_, _, ⟨T25, L25, k25, n25⟩, -, X25, ⟨Lc25, hQ25, l25, y25, z25⟩, st25⟩ := Jvm.LawKit.callS X16 hx (y := (⟨"java/util/Optional", "of", "(Ljava/lang/Object;)Ljava/util/Optional;"⟩ : MethodName)) hown (mvT hZ (hw _ (List.mem_of_getElem? (i := 114) rfl))) (mvT hZ (hw _ (List.mem_of_getElem? (i := 115) rfl))) (mvT hZ (hw _ (List.mem_of_getElem? (i := 89) rfl))) (mvT hZ (hw _ (List.mem_of_getElem? (i := 116) rfl))) (by decide) (backOf (W := 0) (rm21 l Z a0 hw [] (A 2) T2.heap n0 Z2 ) hZ (hw _ (List.mem_of_getElem? (i := 116) rfl)) (hw _ (List.mem_of_getElem? (i := 89) rfl)) (by decide) (by decide)) (g := (mkF m 40 #[.val (.ref u0), .val (.ref em), .val (.ref b2), .val (.int (4 : Int32)), .val (.int (2 : Int32)), .val (.ref (A 2))] [(.ref (A 2))])) rfl (by rw [hml]; rfl) (argsL := [(.ref (A 2))]) (rest := []) (lenOf pd_9 rfl) rfl (by show 2 * 0 + _ ≤ _; exact Nat.le_of_eq rfl) (hb hby d18_40) (fun _ _ => ⟨rfl, e16, (by decide : 1 + 1 ≤ _), (by decide : 4 + 1 ≤ _)⟩)
        dsimp only [Pt.U, Pt.locs, Pt.cells, Pt.slots] at X25 l25 y25 z25 st25 hQ25
        rw [l25, y25, z25] at X25
        obtain ⟨b25, rfl, N25q, K25q, EI25, FI25⟩ := hQ25
        have N25 := Fr.app N16 N25q
        have Z25 : n0 ≤ T25.heap.size := Nat.le_trans Z2 K25q.1
        have Kp25 := Kp2.trans K25q (fun x hx => nomatch hx)
        obtain ⟨cl26, Ar26, qq26, S26, M26, H26, G26⟩ := id (VI2.keep K25q (by simp))
        have hin26 : ¬ ((3 : Int32) < 0 ∨ cl26.slots.size ≤ ((3 : Int32)).toNatClampNeg) := inb_of S26 ⟨by decide, by decide⟩
        have hat26 : cl26.slots[((3 : Int32)).toNatClampNeg]? = some (.ref (A 3)) := H26 3 (by rw [S26]; decide)
        have cy27 := (wf3.keep K2q (by simp))
        have cy28 := (cy27.keep K25q (by simp))
        obtain ⟨T29, X29, e29, st29⟩ := getF X25 hx hZ hown (host := "") (Or.inl (hw _ (List.mem_of_getElem? (i := 111) rfl))) Via.refl rfl cy28 (g := (mkF m 28 #[.val (.ref u0), .val (.ref b25), .val (.ref b2), .val (.int (4 : Int32)), .val (.int (3 : Int32)), .val (.ref (A 3))] [(.ref (A 3))])) rfl rfl (hb hby d18_28)
        have cy30 := (wt3.keep0 K2q)
        have cy31 := (cy30.keep0 K25q)
        have cy32 := (HT.keep0 K2q)
        have cy33 := (cy32.keep0 K25q)
        have cy34 := (SCS.ext (own_extK K2q))
        have cy35 := (cy34.ext (own_extK K25q))
        obtain ⟨cq36, kq36, q36a, q36b, q36c⟩ := isOf hZ e29 (own_Str.exa cy31)
        obtain ⟨_, _, ⟨T36, L36, k36, n36⟩, -, X36, ⟨Lc36, hQ36, l36, y36, z36⟩, st36⟩ := X29.virtualBack hx (y := (⟨"java/lang/String", "equals", "(Ljava/lang/Object;)Z"⟩ : MethodName)) (z := (⟨"java/lang/String", "equals", "(Ljava/lang/Object;)Z"⟩ : MethodName)) hown (mvT hZ (hw _ (List.mem_of_getElem? (i := 113) rfl))) (mvT hZ (hw _ (List.mem_of_getElem? (i := 75) rfl))) (notFace_of_selects (args := #[]) (mvT hZ (hw _ (List.mem_of_getElem? (i := 77) rfl)))) (mvT hZ (hw _ (List.mem_of_getElem? (i := 77) rfl))) (mvT hZ (hw _ (List.mem_of_getElem? (i := 76) rfl))) (by decide) (own_eqB (W := 0) hZ hweq (hw _ (List.mem_of_getElem? (i := 2) rfl)) cy31 cy33 cy35 hcs (by decide) (by decide)) q36a q36c (g := (mkF m 32 #[.val (.ref u0), .val (.ref b25), .val (.ref b2), .val (.int (4 : Int32)), .val (.int (3 : Int32)), .val (.ref (A 3))] [(.ref u0), (.ref (NM 3))])) rfl (by rw [hml]; rfl) (Steps.refl _) (argsL := [(.ref u0)]) (rest := []) (lenOf pd_8 rfl) rfl (by show 2 * 0 + _ ≤ _; exact Nat.le_of_eq rfl) (hb hby d18_32) (fun _ _ => ⟨rfl, e29, (by decide : 2 + 0 ≤ _), (by decide : 5 + 0 ≤ _)⟩)
        dsimp only [Pt.U, Pt.locs, Pt.cells, Pt.slots] at X36 l36 y36 z36 st36 hQ36
        rw [l36, y36, z36] at X36
        obtain ⟨rfl, rfl, e36⟩ := hQ36
        have N36 := Fr.app N25 (Fr.nil n0)
        have hd35_37 : (if own_c3 = cs then (1 : Int32) else (0 : Int32)) = (0 : Int32) := by exact if_neg (fun q => absurd ((own_if1 hc35_18).trans q.symm) (by decide))
        obtain ⟨fs, hr, hrun, hended, hW, hsame⟩ := X36.leave (v := some (.ref b25)) (fun h => by rw [Bd.returns] at h; cases h)
        refine ⟨_, _, ?_, hrun, hended, _, _, rfl, ?_, ⟨_, rfl⟩, hW, hsame.mono (by decide) (by decide)⟩
        · show Steps p.tables e below (T16.setTop (mkF m 38 #[.val (.ref u0), .val (.ref em), .val (.ref b2), .val (.int (4 : Int32)), .val (.int (2 : Int32)), .val (.ref (A 2))] [])) _
          refine XS.aload X16.here hx rfl (hb hby d18_38) rfl rfl ?_
          show Steps p.tables e below (T16.setTop (mkF m 40 #[.val (.ref u0), .val (.ref em), .val (.ref b2), .val (.int (4 : Int32)), .val (.int (2 : Int32)), .val (.ref (A 2))] [(.ref (A 2))])) _
          refine st25 _ ?_
          show Steps p.tables e below (T25.setTop (mkF m 43 #[.val (.ref u0), .val (.ref em), .val (.ref b2), .val (.int (4 : Int32)), .val (.int (2 : Int32)), .val (.ref (A 2))] [(.ref b25)])) _
          refine XS.astoreN X25.here hx rfl (hb hby d18_43) rfl rfl (l' := #[.val (.ref u0), .val (.ref b25), .val (.ref b2), .val (.int (4 : Int32)), .val (.int (2 : Int32)), .val (.ref (A 2))]) rfl ?_
          show Steps p.tables e below (T25.setTop (mkF m 44 #[.val (.ref u0), .val (.ref b25), .val (.ref b2), .val (.int (4 : Int32)), .val (.int (2 : Int32)), .val (.ref (A 2))] [])) _
          refine XS.iinc X25.here hx rfl (hb hby d18_44) rfl (l' := #[.val (.ref u0), .val (.ref b25), .val (.ref b2), .val (.int (4 : Int32)), .val (.int ((2 : Int32) + (1 : Int32))), .val (.ref (A 2))]) rfl ?_
          rw [show ((2 : Int32) + (1 : Int32)) = (3 : Int32) from by decide]
          show Steps p.tables e below (T25.setTop (mkF m 47 #[.val (.ref u0), .val (.ref b25), .val (.ref b2), .val (.int (4 : Int32)), .val (.int (3 : Int32)), .val (.ref (A 2))] [])) _
          refine XS.goto X25.here hx rfl (pc0 := 47) (pc' := 14) rfl (hb hby d18_47) (by decide) (by decide) ?_
          show Steps p.tables e below (T25.setTop (mkF m 14 #[.val (.ref u0), .val (.ref b25), .val (.ref b2), .val (.int (4 : Int32)), .val (.int (3 : Int32)), .val (.ref (A 2))] [])) _
          refine XS.iload X25.here hx rfl (hb hby d18_14) rfl ?_
          show Steps p.tables e below (T25.setTop (mkF m 16 #[.val (.ref u0), .val (.ref b25), .val (.ref b2), .val (.int (4 : Int32)), .val (.int (3 : Int32)), .val (.ref (A 2))] [(.int (3 : Int32))])) _
          refine XS.iloadN X25.here hx rfl (hb hby d18_16) rfl ?_
          show Steps p.tables e below (T25.setTop (mkF m 17 #[.val (.ref u0), .val (.ref b25), .val (.ref b2), .val (.int (4 : Int32)), .val (.int (3 : Int32)), .val (.ref (A 2))] [(.int (4 : Int32)), (.int (3 : Int32))])) _
          refine XS.icmpNo X25.here hx rfl (hb hby d18_17) rfl (tlt (by decide : (3 : Int32) < (4 : Int32))).2.1 ?_
          show Steps p.tables e below (T25.setTop (mkF m 20 #[.val (.ref u0), .val (.ref b25), .val (.ref b2), .val (.int (4 : Int32)), .val (.int (3 : Int32)), .val (.ref (A 2))] [])) _
          refine XS.aloadN X25.here hx rfl (hb hby d18_20) rfl rfl ?_
          show Steps p.tables e below (T25.setTop (mkF m 21 #[.val (.ref u0), .val (.ref b25), .val (.ref b2), .val (.int (4 : Int32)), .val (.int (3 : Int32)), .val (.ref (A 2))] [(.ref b2)])) _
          refine XS.iload X25.here hx rfl (hb hby d18_21) rfl ?_
          show Steps p.tables e below (T25.setTop (mkF m 23 #[.val (.ref u0), .val (.ref b25), .val (.ref b2), .val (.int (4 : Int32)), .val (.int (3 : Int32)), .val (.ref (A 2))] [(.int (3 : Int32)), (.ref b2)])) _
          refine X25.aaload hx (j := (3 : Int32)) (v := (.ref (A 3))) Ar26.1 (State.isArrayOf_alike hZ.alike Ar26.2.1) rfl Ar26.2.2 hin26 hat26 (g := (mkF m 23 #[.val (.ref u0), .val (.ref b25), .val (.ref b2), .val (.int (4 : Int32)), .val (.int (3 : Int32)), .val (.ref (A 2))] [(.int (3 : Int32)), (.ref b2)])) rfl rfl (hb hby d18_23) _ ?_
          show Steps p.tables e below (T25.setTop (mkF m 24 #[.val (.ref u0), .val (.ref b25), .val (.ref b2), .val (.int (4 : Int32)), .val (.int (3 : Int32)), .val (.ref (A 2))] [(.ref (A 3))])) _
          refine XS.astore X25.here hx rfl (hb hby d18_24) rfl rfl (l' := #[.val (.ref u0), .val (.ref b25), .val (.ref b2), .val (.int (4 : Int32)), .val (.int (3 : Int32)), .val (.ref (A 3))]) rfl ?_
          show Steps p.tables e below (T25.setTop (mkF m 26 #[.val (.ref u0), .val (.ref b25), .val (.ref b2), .val (.int (4 : Int32)), .val (.int (3 : Int32)), .val (.ref (A 3))] [])) _
          refine XS.aload X25.here hx rfl (hb hby d18_26) rfl rfl ?_
          show Steps p.tables e below (T25.setTop (mkF m 28 #[.val (.ref u0), .val (.ref b25), .val (.ref b2), .val (.int (4 : Int32)), .val (.int (3 : Int32)), .val (.ref (A 3))] [(.ref (A 3))])) _
          refine st29 _ ?_
          show Steps p.tables e below (T29.setTop (mkF m 31 #[.val (.ref u0), .val (.ref b25), .val (.ref b2), .val (.int (4 : Int32)), .val (.int (3 : Int32)), .val (.ref (A 3))] [(.ref (NM 3))])) _
          refine XS.aloadN X29.here hx rfl (hb hby d18_31) rfl rfl ?_
          show Steps p.tables e below (T29.setTop (mkF m 32 #[.val (.ref u0), .val (.ref b25), .val (.ref b2), .val (.int (4 : Int32)), .val (.int (3 : Int32)), .val (.ref (A 3))] [(.ref u0), (.ref (NM 3))])) _
          refine st36.trans ?_
          show Steps p.tables e below (T36.setTop (mkF m 35 #[.val (.ref u0), .val (.ref b25), .val (.ref b2), .val (.int (4 : Int32)), .val (.int (3 : Int32)), .val (.ref (A 3))] [(.int (if own_c3 = cs then (1 : Int32) else (0 : Int32)))])) _
          refine XS.ifYes X36.here hx rfl (pc0 := 35) (pc' := 44) rfl (hb hby d18_35) rfl ((if0 _ _).trans (teq hd35_37).1) (by decide) (by decide) ?_
          show Steps p.tables e below (T36.setTop (mkF m 44 #[.val (.ref u0), .val (.ref b25), .val (.ref b2), .val (.int (4 : Int32)), .val (.int (3 : Int32)), .val (.ref (A 3))] [])) _
          refine XS.iinc X36.here hx rfl (hb hby d18_44) rfl (l' := #[.val (.ref u0), .val (.ref b25), .val (.ref b2), .val (.int (4 : Int32)), .val (.int ((3 : Int32) + (1 : Int32))), .val (.ref (A 3))]) rfl ?_
          rw [show ((3 : Int32) + (1 : Int32)) = (4 : Int32) from by decide]
          show Steps p.tables e below (T36.setTop (mkF m 47 #[.val (.ref u0), .val (.ref b25), .val (.ref b2), .val (.int (4 : Int32)), .val (.int (4 : Int32)), .val (.ref (A 3))] [])) _
          refine XS.goto X36.here hx rfl (pc0 := 47) (pc' := 14) rfl (hb hby d18_47) (by decide) (by decide) ?_
          show Steps p.tables e below (T36.setTop (mkF m 14 #[.val (.ref u0), .val (.ref b25), .val (.ref b2), .val (.int (4 : Int32)), .val (.int (4 : Int32)), .val (.ref (A 3))] [])) _
          refine XS.iload X36.here hx rfl (hb hby d18_14) rfl ?_
          show Steps p.tables e below (T36.setTop (mkF m 16 #[.val (.ref u0), .val (.ref b25), .val (.ref b2), .val (.int (4 : Int32)), .val (.int (4 : Int32)), .val (.ref (A 3))] [(.int (4 : Int32))])) _
          refine XS.iloadN X36.here hx rfl (hb hby d18_16) rfl ?_
          show Steps p.tables e below (T36.setTop (mkF m 17 #[.val (.ref u0), .val (.ref b25), .val (.ref b2), .val (.int (4 : Int32)), .val (.int (4 : Int32)), .val (.ref (A 3))] [(.int (4 : Int32)), (.int (4 : Int32))])) _
          refine XS.icmpYes X36.here hx rfl (pc0 := 17) (pc' := 50) rfl (hb hby d18_17) rfl (flt (by decide : ¬ ((4 : Int32) < (4 : Int32)))).2.1 (by decide) (by decide) ?_
          show Steps p.tables e below (T36.setTop (mkF m 50 #[.val (.ref u0), .val (.ref b25), .val (.ref b2), .val (.int (4 : Int32)), .val (.int (4 : Int32)), .val (.ref (A 3))] [])) _
          refine XS.aloadN X36.here hx rfl (hb hby d18_50) rfl rfl ?_
          show Steps p.tables e below (T36.setTop (mkF m 51 #[.val (.ref u0), .val (.ref b25), .val (.ref b2), .val (.int (4 : Int32)), .val (.int (4 : Int32)), .val (.ref (A 3))] [(.ref b25)])) _
          jvm_step X36.here [X36.here.top, hx, (hb hby d18_51), X36.method', Bd.returns, Value.isRef, FieldType.isReference]
          first | (intro acts; rw [hr _ acts rfl rfl rfl]) | rw [hr _ _ rfl rfl rfl]
          exact Steps.refl _
        · show Q18 Z u0 A NM va em kv dv cs cz h0 n0 _ T36.heap _
          rw [e36]
          have OV : own_opt A cs = (.ref (A 2)) := by
            unfold own_opt
            rw [if_neg (own_if0 hc35_8), if_neg (own_if0 hc35_13), if_pos (own_if1 hc35_18)]
          have FO := FI25
          rw [← OV] at FO
          exact ⟨b25, rfl, N36, Kp25, EI25, FO⟩
    · have K : ∀ target, Steps p.tables e below (T11.setTop (mkF m 38 #[.val (.ref u0), .val (.ref em), .val (.ref b2), .val (.int (4 : Int32)), .val (.int (1 : Int32)), .val (.ref (A 1))] [])) target → Steps p.tables e below (T11.setTop (mkF m 35 #[.val (.ref u0), .val (.ref em), .val (.ref b2), .val (.int (4 : Int32)), .val (.int (1 : Int32)), .val (.ref (A 1))] [(.int (if own_c1 = cs then (1 : Int32) else (0 : Int32)))])) target := by
        intro target kt
        refine XS.ifNo X11.here hx rfl (hb hby d18_35) rfl ((if0 _ _).trans (feq hc35_13).1) ?_
        exact kt
      refine Done.of ?_ K
      obtain ⟨_, _, ⟨T38, L38, k38, n38⟩, -, X38, ⟨Lc38, hQ38, l38, y38, z38⟩, st38⟩ := Jvm.LawKit.callS X11 hx (y := (⟨"java/util/Optional", "of", "(Ljava/lang/Object;)Ljava/util/Optional;"⟩ : MethodName)) hown (mvT hZ (hw _ (List.mem_of_getElem? (i := 114) rfl))) (mvT hZ (hw _ (List.mem_of_getElem? (i := 115) rfl))) (mvT hZ (hw _ (List.mem_of_getElem? (i := 89) rfl))) (mvT hZ (hw _ (List.mem_of_getElem? (i := 116) rfl))) (by decide) (backOf (W := 0) (rm21 l Z a0 hw [] (A 1) T2.heap n0 Z2 ) hZ (hw _ (List.mem_of_getElem? (i := 116) rfl)) (hw _ (List.mem_of_getElem? (i := 89) rfl)) (by decide) (by decide)) (g := (mkF m 40 #[.val (.ref u0), .val (.ref em), .val (.ref b2), .val (.int (4 : Int32)), .val (.int (1 : Int32)), .val (.ref (A 1))] [(.ref (A 1))])) rfl (by rw [hml]; rfl) (argsL := [(.ref (A 1))]) (rest := []) (lenOf pd_9 rfl) rfl (by show 2 * 0 + _ ≤ _; exact Nat.le_of_eq rfl) (hb hby d18_40) (fun _ _ => ⟨rfl, e11, (by decide : 1 + 1 ≤ _), (by decide : 4 + 1 ≤ _)⟩)
      dsimp only [Pt.U, Pt.locs, Pt.cells, Pt.slots] at X38 l38 y38 z38 st38 hQ38
      rw [l38, y38, z38] at X38
      obtain ⟨b38, rfl, N38q, K38q, EI38, FI38⟩ := hQ38
      have N38 := Fr.app N11 N38q
      have Z38 : n0 ≤ T38.heap.size := Nat.le_trans Z2 K38q.1
      have Kp38 := Kp2.trans K38q (fun x hx => nomatch hx)
      obtain ⟨cl39, Ar39, qq39, S39, M39, H39, G39⟩ := id (VI2.keep K38q (by simp))
      have hin39 : ¬ ((2 : Int32) < 0 ∨ cl39.slots.size ≤ ((2 : Int32)).toNatClampNeg) := inb_of S39 ⟨by decide, by decide⟩
      have hat39 : cl39.slots[((2 : Int32)).toNatClampNeg]? = some (.ref (A 2)) := H39 2 (by rw [S39]; decide)
      have cy40 := (wf2.keep K2q (by simp))
      have cy41 := (cy40.keep K38q (by simp))
      obtain ⟨T42, X42, e42, st42⟩ := getF X38 hx hZ hown (host := "") (Or.inl (hw _ (List.mem_of_getElem? (i := 111) rfl))) Via.refl rfl cy41 (g := (mkF m 28 #[.val (.ref u0), .val (.ref b38), .val (.ref b2), .val (.int (4 : Int32)), .val (.int (2 : Int32)), .val (.ref (A 2))] [(.ref (A 2))])) rfl rfl (hb hby d18_28)
      have cy43 := (wt2.keep0 K2q)
      have cy44 := (cy43.keep0 K38q)
      have cy45 := (HT.keep0 K2q)
      have cy46 := (cy45.keep0 K38q)
      have cy47 := (SCS.ext (own_extK K2q))
      have cy48 := (cy47.ext (own_extK K38q))
      obtain ⟨cq49, kq49, q49a, q49b, q49c⟩ := isOf hZ e42 (own_Str.exa cy44)
      obtain ⟨_, _, ⟨T49, L49, k49, n49⟩, -, X49, ⟨Lc49, hQ49, l49, y49, z49⟩, st49⟩ := X42.virtualBack hx (y := (⟨"java/lang/String", "equals", "(Ljava/lang/Object;)Z"⟩ : MethodName)) (z := (⟨"java/lang/String", "equals", "(Ljava/lang/Object;)Z"⟩ : MethodName)) hown (mvT hZ (hw _ (List.mem_of_getElem? (i := 113) rfl))) (mvT hZ (hw _ (List.mem_of_getElem? (i := 75) rfl))) (notFace_of_selects (args := #[]) (mvT hZ (hw _ (List.mem_of_getElem? (i := 77) rfl)))) (mvT hZ (hw _ (List.mem_of_getElem? (i := 77) rfl))) (mvT hZ (hw _ (List.mem_of_getElem? (i := 76) rfl))) (by decide) (own_eqB (W := 0) hZ hweq (hw _ (List.mem_of_getElem? (i := 2) rfl)) cy44 cy46 cy48 hcs (by decide) (by decide)) q49a q49c (g := (mkF m 32 #[.val (.ref u0), .val (.ref b38), .val (.ref b2), .val (.int (4 : Int32)), .val (.int (2 : Int32)), .val (.ref (A 2))] [(.ref u0), (.ref (NM 2))])) rfl (by rw [hml]; rfl) (Steps.refl _) (argsL := [(.ref u0)]) (rest := []) (lenOf pd_8 rfl) rfl (by show 2 * 0 + _ ≤ _; exact Nat.le_of_eq rfl) (hb hby d18_32) (fun _ _ => ⟨rfl, e42, (by decide : 2 + 0 ≤ _), (by decide : 5 + 0 ≤ _)⟩)
      dsimp only [Pt.U, Pt.locs, Pt.cells, Pt.slots] at X49 l49 y49 z49 st49 hQ49
      rw [l49, y49, z49] at X49
      obtain ⟨rfl, rfl, e49⟩ := hQ49
      have N49 := Fr.app N38 (Fr.nil n0)
      have hd35_50 : (if own_c2 = cs then (1 : Int32) else (0 : Int32)) = (0 : Int32) := by exact if_neg (fun q => absurd ((own_if1 hc35_13).trans q.symm) (by decide))
      obtain ⟨cl51, Ar51, qq51, S51, M51, H51, G51⟩ := id (VI2.keep K38q (by simp))
      have hin51 : ¬ ((3 : Int32) < 0 ∨ cl51.slots.size ≤ ((3 : Int32)).toNatClampNeg) := inb_of S51 ⟨by decide, by decide⟩
      have hat51 : cl51.slots[((3 : Int32)).toNatClampNeg]? = some (.ref (A 3)) := H51 3 (by rw [S51]; decide)
      have cy52 := (wf3.keep K2q (by simp))
      have cy53 := (cy52.keep K38q (by simp))
      obtain ⟨T54, X54, e54, st54⟩ := getF X49 hx hZ hown (host := "") (Or.inl (hw _ (List.mem_of_getElem? (i := 111) rfl))) Via.refl e49 cy53 (g := (mkF m 28 #[.val (.ref u0), .val (.ref b38), .val (.ref b2), .val (.int (4 : Int32)), .val (.int (3 : Int32)), .val (.ref (A 3))] [(.ref (A 3))])) rfl rfl (hb hby d18_28)
      have cy55 := (wt3.keep0 K2q)
      have cy56 := (cy55.keep0 K38q)
      obtain ⟨cq57, kq57, q57a, q57b, q57c⟩ := isOf hZ e54 (own_Str.exa cy56)
      obtain ⟨_, _, ⟨T57, L57, k57, n57⟩, -, X57, ⟨Lc57, hQ57, l57, y57, z57⟩, st57⟩ := X54.virtualBack hx (y := (⟨"java/lang/String", "equals", "(Ljava/lang/Object;)Z"⟩ : MethodName)) (z := (⟨"java/lang/String", "equals", "(Ljava/lang/Object;)Z"⟩ : MethodName)) hown (mvT hZ (hw _ (List.mem_of_getElem? (i := 113) rfl))) (mvT hZ (hw _ (List.mem_of_getElem? (i := 75) rfl))) (notFace_of_selects (args := #[]) (mvT hZ (hw _ (List.mem_of_getElem? (i := 77) rfl)))) (mvT hZ (hw _ (List.mem_of_getElem? (i := 77) rfl))) (mvT hZ (hw _ (List.mem_of_getElem? (i := 76) rfl))) (by decide) (own_eqB (W := 0) hZ hweq (hw _ (List.mem_of_getElem? (i := 2) rfl)) cy56 cy46 cy48 hcs (by decide) (by decide)) q57a q57c (g := (mkF m 32 #[.val (.ref u0), .val (.ref b38), .val (.ref b2), .val (.int (4 : Int32)), .val (.int (3 : Int32)), .val (.ref (A 3))] [(.ref u0), (.ref (NM 3))])) rfl (by rw [hml]; rfl) (Steps.refl _) (argsL := [(.ref u0)]) (rest := []) (lenOf pd_8 rfl) rfl (by show 2 * 0 + _ ≤ _; exact Nat.le_of_eq rfl) (hb hby d18_32) (fun _ _ => ⟨rfl, e54, (by decide : 2 + 0 ≤ _), (by decide : 5 + 0 ≤ _)⟩)
      dsimp only [Pt.U, Pt.locs, Pt.cells, Pt.slots] at X57 l57 y57 z57 st57 hQ57
      rw [l57, y57, z57] at X57
      obtain ⟨rfl, rfl, e57⟩ := hQ57
      have N57 := Fr.app N49 (Fr.nil n0)
      have hd35_58 : (if own_c3 = cs then (1 : Int32) else (0 : Int32)) = (0 : Int32) := by exact if_neg (fun q => absurd ((own_if1 hc35_13).trans q.symm) (by decide))
      obtain ⟨fs, hr, hrun, hended, hW, hsame⟩ := X57.leave (v := some (.ref b38)) (fun h => by rw [Bd.returns] at h; cases h)
      refine ⟨_, _, ?_, hrun, hended, _, _, rfl, ?_, ⟨_, rfl⟩, hW, hsame.mono (by decide) (by decide)⟩
      · show Steps p.tables e below (T11.setTop (mkF m 38 #[.val (.ref u0), .val (.ref em), .val (.ref b2), .val (.int (4 : Int32)), .val (.int (1 : Int32)), .val (.ref (A 1))] [])) _
        refine XS.aload X11.here hx rfl (hb hby d18_38) rfl rfl ?_
        show Steps p.tables e below (T11.setTop (mkF m 40 #[.val (.ref u0), .val (.ref em), .val (.ref b2), .val (.int (4 : Int32)), .val (.int (1 : Int32)), .val (.ref (A 1))] [(.ref (A 1))])) _
        refine st38 _ ?_
        show Steps p.tables e below (T38.setTop (mkF m 43 #[.val (.ref u0), .val (.ref em), .val (.ref b2), .val (.int (4 : Int32)), .val (.int (1 : Int32)), .val (.ref (A 1))] [(.ref b38)])) _
        refine XS.astoreN X38.here hx rfl (hb hby d18_43) rfl rfl (l' := #[.val (.ref u0), .val (.ref b38), .val (.ref b2), .val (.int (4 : Int32)), .val (.int (1 : Int32)), .val (.ref (A 1))]) rfl ?_
        show Steps p.tables e below (T38.setTop (mkF m 44 #[.val (.ref u0), .val (.ref b38), .val (.ref b2), .val (.int (4 : Int32)), .val (.int (1 : Int32)), .val (.ref (A 1))] [])) _
        refine XS.iinc X38.here hx rfl (hb hby d18_44) rfl (l' := #[.val (.ref u0), .val (.ref b38), .val (.ref b2), .val (.int (4 : Int32)), .val (.int ((1 : Int32) + (1 : Int32))), .val (.ref (A 1))]) rfl ?_
        rw [show ((1 : Int32) + (1 : Int32)) = (2 : Int32) from by decide]
        show Steps p.tables e below (T38.setTop (mkF m 47 #[.val (.ref u0), .val (.ref b38), .val (.ref b2), .val (.int (4 : Int32)), .val (.int (2 : Int32)), .val (.ref (A 1))] [])) _
        refine XS.goto X38.here hx rfl (pc0 := 47) (pc' := 14) rfl (hb hby d18_47) (by decide) (by decide) ?_
        show Steps p.tables e below (T38.setTop (mkF m 14 #[.val (.ref u0), .val (.ref b38), .val (.ref b2), .val (.int (4 : Int32)), .val (.int (2 : Int32)), .val (.ref (A 1))] [])) _
        refine XS.iload X38.here hx rfl (hb hby d18_14) rfl ?_
        show Steps p.tables e below (T38.setTop (mkF m 16 #[.val (.ref u0), .val (.ref b38), .val (.ref b2), .val (.int (4 : Int32)), .val (.int (2 : Int32)), .val (.ref (A 1))] [(.int (2 : Int32))])) _
        refine XS.iloadN X38.here hx rfl (hb hby d18_16) rfl ?_
        show Steps p.tables e below (T38.setTop (mkF m 17 #[.val (.ref u0), .val (.ref b38), .val (.ref b2), .val (.int (4 : Int32)), .val (.int (2 : Int32)), .val (.ref (A 1))] [(.int (4 : Int32)), (.int (2 : Int32))])) _
        refine XS.icmpNo X38.here hx rfl (hb hby d18_17) rfl (tlt (by decide : (2 : Int32) < (4 : Int32))).2.1 ?_
        show Steps p.tables e below (T38.setTop (mkF m 20 #[.val (.ref u0), .val (.ref b38), .val (.ref b2), .val (.int (4 : Int32)), .val (.int (2 : Int32)), .val (.ref (A 1))] [])) _
        refine XS.aloadN X38.here hx rfl (hb hby d18_20) rfl rfl ?_
        show Steps p.tables e below (T38.setTop (mkF m 21 #[.val (.ref u0), .val (.ref b38), .val (.ref b2), .val (.int (4 : Int32)), .val (.int (2 : Int32)), .val (.ref (A 1))] [(.ref b2)])) _
        refine XS.iload X38.here hx rfl (hb hby d18_21) rfl ?_
        show Steps p.tables e below (T38.setTop (mkF m 23 #[.val (.ref u0), .val (.ref b38), .val (.ref b2), .val (.int (4 : Int32)), .val (.int (2 : Int32)), .val (.ref (A 1))] [(.int (2 : Int32)), (.ref b2)])) _
        refine X38.aaload hx (j := (2 : Int32)) (v := (.ref (A 2))) Ar39.1 (State.isArrayOf_alike hZ.alike Ar39.2.1) rfl Ar39.2.2 hin39 hat39 (g := (mkF m 23 #[.val (.ref u0), .val (.ref b38), .val (.ref b2), .val (.int (4 : Int32)), .val (.int (2 : Int32)), .val (.ref (A 1))] [(.int (2 : Int32)), (.ref b2)])) rfl rfl (hb hby d18_23) _ ?_
        show Steps p.tables e below (T38.setTop (mkF m 24 #[.val (.ref u0), .val (.ref b38), .val (.ref b2), .val (.int (4 : Int32)), .val (.int (2 : Int32)), .val (.ref (A 1))] [(.ref (A 2))])) _
        refine XS.astore X38.here hx rfl (hb hby d18_24) rfl rfl (l' := #[.val (.ref u0), .val (.ref b38), .val (.ref b2), .val (.int (4 : Int32)), .val (.int (2 : Int32)), .val (.ref (A 2))]) rfl ?_
        show Steps p.tables e below (T38.setTop (mkF m 26 #[.val (.ref u0), .val (.ref b38), .val (.ref b2), .val (.int (4 : Int32)), .val (.int (2 : Int32)), .val (.ref (A 2))] [])) _
        refine XS.aload X38.here hx rfl (hb hby d18_26) rfl rfl ?_
        show Steps p.tables e below (T38.setTop (mkF m 28 #[.val (.ref u0), .val (.ref b38), .val (.ref b2), .val (.int (4 : Int32)), .val (.int (2 : Int32)), .val (.ref (A 2))] [(.ref (A 2))])) _
        refine st42 _ ?_
        show Steps p.tables e below (T42.setTop (mkF m 31 #[.val (.ref u0), .val (.ref b38), .val (.ref b2), .val (.int (4 : Int32)), .val (.int (2 : Int32)), .val (.ref (A 2))] [(.ref (NM 2))])) _
        refine XS.aloadN X42.here hx rfl (hb hby d18_31) rfl rfl ?_
        show Steps p.tables e below (T42.setTop (mkF m 32 #[.val (.ref u0), .val (.ref b38), .val (.ref b2), .val (.int (4 : Int32)), .val (.int (2 : Int32)), .val (.ref (A 2))] [(.ref u0), (.ref (NM 2))])) _
        refine st49.trans ?_
        show Steps p.tables e below (T49.setTop (mkF m 35 #[.val (.ref u0), .val (.ref b38), .val (.ref b2), .val (.int (4 : Int32)), .val (.int (2 : Int32)), .val (.ref (A 2))] [(.int (if own_c2 = cs then (1 : Int32) else (0 : Int32)))])) _
        refine XS.ifYes X49.here hx rfl (pc0 := 35) (pc' := 44) rfl (hb hby d18_35) rfl ((if0 _ _).trans (teq hd35_50).1) (by decide) (by decide) ?_
        show Steps p.tables e below (T49.setTop (mkF m 44 #[.val (.ref u0), .val (.ref b38), .val (.ref b2), .val (.int (4 : Int32)), .val (.int (2 : Int32)), .val (.ref (A 2))] [])) _
        refine XS.iinc X49.here hx rfl (hb hby d18_44) rfl (l' := #[.val (.ref u0), .val (.ref b38), .val (.ref b2), .val (.int (4 : Int32)), .val (.int ((2 : Int32) + (1 : Int32))), .val (.ref (A 2))]) rfl ?_
        rw [show ((2 : Int32) + (1 : Int32)) = (3 : Int32) from by decide]
        show Steps p.tables e below (T49.setTop (mkF m 47 #[.val (.ref u0), .val (.ref b38), .val (.ref b2), .val (.int (4 : Int32)), .val (.int (3 : Int32)), .val (.ref (A 2))] [])) _
        refine XS.goto X49.here hx rfl (pc0 := 47) (pc' := 14) rfl (hb hby d18_47) (by decide) (by decide) ?_
        show Steps p.tables e below (T49.setTop (mkF m 14 #[.val (.ref u0), .val (.ref b38), .val (.ref b2), .val (.int (4 : Int32)), .val (.int (3 : Int32)), .val (.ref (A 2))] [])) _
        refine XS.iload X49.here hx rfl (hb hby d18_14) rfl ?_
        show Steps p.tables e below (T49.setTop (mkF m 16 #[.val (.ref u0), .val (.ref b38), .val (.ref b2), .val (.int (4 : Int32)), .val (.int (3 : Int32)), .val (.ref (A 2))] [(.int (3 : Int32))])) _
        refine XS.iloadN X49.here hx rfl (hb hby d18_16) rfl ?_
        show Steps p.tables e below (T49.setTop (mkF m 17 #[.val (.ref u0), .val (.ref b38), .val (.ref b2), .val (.int (4 : Int32)), .val (.int (3 : Int32)), .val (.ref (A 2))] [(.int (4 : Int32)), (.int (3 : Int32))])) _
        refine XS.icmpNo X49.here hx rfl (hb hby d18_17) rfl (tlt (by decide : (3 : Int32) < (4 : Int32))).2.1 ?_
        show Steps p.tables e below (T49.setTop (mkF m 20 #[.val (.ref u0), .val (.ref b38), .val (.ref b2), .val (.int (4 : Int32)), .val (.int (3 : Int32)), .val (.ref (A 2))] [])) _
        refine XS.aloadN X49.here hx rfl (hb hby d18_20) rfl rfl ?_
        show Steps p.tables e below (T49.setTop (mkF m 21 #[.val (.ref u0), .val (.ref b38), .val (.ref b2), .val (.int (4 : Int32)), .val (.int (3 : Int32)), .val (.ref (A 2))] [(.ref b2)])) _
        refine XS.iload X49.here hx rfl (hb hby d18_21) rfl ?_
        show Steps p.tables e below (T49.setTop (mkF m 23 #[.val (.ref u0), .val (.ref b38), .val (.ref b2), .val (.int (4 : Int32)), .val (.int (3 : Int32)), .val (.ref (A 2))] [(.int (3 : Int32)), (.ref b2)])) _
        refine X49.aaload hx (j := (3 : Int32)) (v := (.ref (A 3))) (by rw [e49]; exact Ar51.1) (State.isArrayOf_alike hZ.alike Ar51.2.1) rfl Ar51.2.2 hin51 hat51 (g := (mkF m 23 #[.val (.ref u0), .val (.ref b38), .val (.ref b2), .val (.int (4 : Int32)), .val (.int (3 : Int32)), .val (.ref (A 2))] [(.int (3 : Int32)), (.ref b2)])) rfl rfl (hb hby d18_23) _ ?_
        show Steps p.tables e below (T49.setTop (mkF m 24 #[.val (.ref u0), .val (.ref b38), .val (.ref b2), .val (.int (4 : Int32)), .val (.int (3 : Int32)), .val (.ref (A 2))] [(.ref (A 3))])) _
        refine XS.astore X49.here hx rfl (hb hby d18_24) rfl rfl (l' := #[.val (.ref u0), .val (.ref b38), .val (.ref b2), .val (.int (4 : Int32)), .val (.int (3 : Int32)), .val (.ref (A 3))]) rfl ?_
        show Steps p.tables e below (T49.setTop (mkF m 26 #[.val (.ref u0), .val (.ref b38), .val (.ref b2), .val (.int (4 : Int32)), .val (.int (3 : Int32)), .val (.ref (A 3))] [])) _
        refine XS.aload X49.here hx rfl (hb hby d18_26) rfl rfl ?_
        show Steps p.tables e below (T49.setTop (mkF m 28 #[.val (.ref u0), .val (.ref b38), .val (.ref b2), .val (.int (4 : Int32)), .val (.int (3 : Int32)), .val (.ref (A 3))] [(.ref (A 3))])) _
        refine st54 _ ?_
        show Steps p.tables e below (T54.setTop (mkF m 31 #[.val (.ref u0), .val (.ref b38), .val (.ref b2), .val (.int (4 : Int32)), .val (.int (3 : Int32)), .val (.ref (A 3))] [(.ref (NM 3))])) _
        refine XS.aloadN X54.here hx rfl (hb hby d18_31) rfl rfl ?_
        show Steps p.tables e below (T54.setTop (mkF m 32 #[.val (.ref u0), .val (.ref b38), .val (.ref b2), .val (.int (4 : Int32)), .val (.int (3 : Int32)), .val (.ref (A 3))] [(.ref u0), (.ref (NM 3))])) _
        refine st57.trans ?_
        show Steps p.tables e below (T57.setTop (mkF m 35 #[.val (.ref u0), .val (.ref b38), .val (.ref b2), .val (.int (4 : Int32)), .val (.int (3 : Int32)), .val (.ref (A 3))] [(.int (if own_c3 = cs then (1 : Int32) else (0 : Int32)))])) _
        refine XS.ifYes X57.here hx rfl (pc0 := 35) (pc' := 44) rfl (hb hby d18_35) rfl ((if0 _ _).trans (teq hd35_58).1) (by decide) (by decide) ?_
        show Steps p.tables e below (T57.setTop (mkF m 44 #[.val (.ref u0), .val (.ref b38), .val (.ref b2), .val (.int (4 : Int32)), .val (.int (3 : Int32)), .val (.ref (A 3))] [])) _
        refine XS.iinc X57.here hx rfl (hb hby d18_44) rfl (l' := #[.val (.ref u0), .val (.ref b38), .val (.ref b2), .val (.int (4 : Int32)), .val (.int ((3 : Int32) + (1 : Int32))), .val (.ref (A 3))]) rfl ?_
        rw [show ((3 : Int32) + (1 : Int32)) = (4 : Int32) from by decide]
        show Steps p.tables e below (T57.setTop (mkF m 47 #[.val (.ref u0), .val (.ref b38), .val (.ref b2), .val (.int (4 : Int32)), .val (.int (4 : Int32)), .val (.ref (A 3))] [])) _
        refine XS.goto X57.here hx rfl (pc0 := 47) (pc' := 14) rfl (hb hby d18_47) (by decide) (by decide) ?_
        show Steps p.tables e below (T57.setTop (mkF m 14 #[.val (.ref u0), .val (.ref b38), .val (.ref b2), .val (.int (4 : Int32)), .val (.int (4 : Int32)), .val (.ref (A 3))] [])) _
        refine XS.iload X57.here hx rfl (hb hby d18_14) rfl ?_
        show Steps p.tables e below (T57.setTop (mkF m 16 #[.val (.ref u0), .val (.ref b38), .val (.ref b2), .val (.int (4 : Int32)), .val (.int (4 : Int32)), .val (.ref (A 3))] [(.int (4 : Int32))])) _
        refine XS.iloadN X57.here hx rfl (hb hby d18_16) rfl ?_
        show Steps p.tables e below (T57.setTop (mkF m 17 #[.val (.ref u0), .val (.ref b38), .val (.ref b2), .val (.int (4 : Int32)), .val (.int (4 : Int32)), .val (.ref (A 3))] [(.int (4 : Int32)), (.int (4 : Int32))])) _
        refine XS.icmpYes X57.here hx rfl (pc0 := 17) (pc' := 50) rfl (hb hby d18_17) rfl (flt (by decide : ¬ ((4 : Int32) < (4 : Int32)))).2.1 (by decide) (by decide) ?_
        show Steps p.tables e below (T57.setTop (mkF m 50 #[.val (.ref u0), .val (.ref b38), .val (.ref b2), .val (.int (4 : Int32)), .val (.int (4 : Int32)), .val (.ref (A 3))] [])) _
        refine XS.aloadN X57.here hx rfl (hb hby d18_50) rfl rfl ?_
        show Steps p.tables e below (T57.setTop (mkF m 51 #[.val (.ref u0), .val (.ref b38), .val (.ref b2), .val (.int (4 : Int32)), .val (.int (4 : Int32)), .val (.ref (A 3))] [(.ref b38)])) _
        jvm_step X57.here [X57.here.top, hx, (hb hby d18_51), X57.method', Bd.returns, Value.isRef, FieldType.isReference]
        first | (intro acts; rw [hr _ acts rfl rfl rfl]) | rw [hr _ _ rfl rfl rfl]
        exact Steps.refl _
      · show Q18 Z u0 A NM va em kv dv cs cz h0 n0 _ T57.heap _
        rw [e57]
        have OV : own_opt A cs = (.ref (A 1)) := by
          unfold own_opt
          rw [if_neg (own_if0 hc35_8), if_pos (own_if1 hc35_13)]
        have FO := FI38
        rw [← OV] at FO
        exact ⟨b38, rfl, N57, Kp38, EI38, FO⟩
  · have K : ∀ target, Steps p.tables e below (T6.setTop (mkF m 38 #[.val (.ref u0), .val (.ref em), .val (.ref b2), .val (.int (4 : Int32)), .val (.int (0 : Int32)), .val (.ref (A 0))] [])) target → Steps p.tables e below (T6.setTop (mkF m 35 #[.val (.ref u0), .val (.ref em), .val (.ref b2), .val (.int (4 : Int32)), .val (.int (0 : Int32)), .val (.ref (A 0))] [(.int (if own_c0 = cs then (1 : Int32) else (0 : Int32)))])) target := by
      intro target kt
      refine XS.ifNo X6.here hx rfl (hb hby d18_35) rfl ((if0 _ _).trans (feq hc35_8).1) ?_
      exact kt
    refine Done.of ?_ K
    obtain ⟨_, _, ⟨T59, L59, k59, n59⟩, -, X59, ⟨Lc59, hQ59, l59, y59, z59⟩, st59⟩ := Jvm.LawKit.callS X6 hx (y := (⟨"java/util/Optional", "of", "(Ljava/lang/Object;)Ljava/util/Optional;"⟩ : MethodName)) hown (mvT hZ (hw _ (List.mem_of_getElem? (i := 114) rfl))) (mvT hZ (hw _ (List.mem_of_getElem? (i := 115) rfl))) (mvT hZ (hw _ (List.mem_of_getElem? (i := 89) rfl))) (mvT hZ (hw _ (List.mem_of_getElem? (i := 116) rfl))) (by decide) (backOf (W := 0) (rm21 l Z a0 hw [] (A 0) T2.heap n0 Z2 ) hZ (hw _ (List.mem_of_getElem? (i := 116) rfl)) (hw _ (List.mem_of_getElem? (i := 89) rfl)) (by decide) (by decide)) (g := (mkF m 40 #[.val (.ref u0), .val (.ref em), .val (.ref b2), .val (.int (4 : Int32)), .val (.int (0 : Int32)), .val (.ref (A 0))] [(.ref (A 0))])) rfl (by rw [hml]; rfl) (argsL := [(.ref (A 0))]) (rest := []) (lenOf pd_9 rfl) rfl (by show 2 * 0 + _ ≤ _; exact Nat.le_of_eq rfl) (hb hby d18_40) (fun _ _ => ⟨rfl, e6, (by decide : 1 + 1 ≤ _), (by decide : 4 + 1 ≤ _)⟩)
    dsimp only [Pt.U, Pt.locs, Pt.cells, Pt.slots] at X59 l59 y59 z59 st59 hQ59
    rw [l59, y59, z59] at X59
    obtain ⟨b59, rfl, N59q, K59q, EI59, FI59⟩ := hQ59
    have N59 := Fr.app N6 N59q
    have Z59 : n0 ≤ T59.heap.size := Nat.le_trans Z2 K59q.1
    have Kp59 := Kp2.trans K59q (fun x hx => nomatch hx)
    obtain ⟨cl60, Ar60, qq60, S60, M60, H60, G60⟩ := id (VI2.keep K59q (by simp))
    have hin60 : ¬ ((1 : Int32) < 0 ∨ cl60.slots.size ≤ ((1 : Int32)).toNatClampNeg) := inb_of S60 ⟨by decide, by decide⟩
    have hat60 : cl60.slots[((1 : Int32)).toNatClampNeg]? = some (.ref (A 1)) := H60 1 (by rw [S60]; decide)
    have cy61 := (wf1.keep K2q (by simp))
    have cy62 := (cy61.keep K59q (by simp))
    obtain ⟨T63, X63, e63, st63⟩ := getF X59 hx hZ hown (host := "") (Or.inl (hw _ (List.mem_of_getElem? (i := 111) rfl))) Via.refl rfl cy62 (g := (mkF m 28 #[.val (.ref u0), .val (.ref b59), .val (.ref b2), .val (.int (4 : Int32)), .val (.int (1 : Int32)), .val (.ref (A 1))] [(.ref (A 1))])) rfl rfl (hb hby d18_28)
    have cy64 := (wt1.keep0 K2q)
    have cy65 := (cy64.keep0 K59q)
    have cy66 := (HT.keep0 K2q)
    have cy67 := (cy66.keep0 K59q)
    have cy68 := (SCS.ext (own_extK K2q))
    have cy69 := (cy68.ext (own_extK K59q))
    obtain ⟨cq70, kq70, q70a, q70b, q70c⟩ := isOf hZ e63 (own_Str.exa cy65)
    obtain ⟨_, _, ⟨T70, L70, k70, n70⟩, -, X70, ⟨Lc70, hQ70, l70, y70, z70⟩, st70⟩ := X63.virtualBack hx (y := (⟨"java/lang/String", "equals", "(Ljava/lang/Object;)Z"⟩ : MethodName)) (z := (⟨"java/lang/String", "equals", "(Ljava/lang/Object;)Z"⟩ : MethodName)) hown (mvT hZ (hw _ (List.mem_of_getElem? (i := 113) rfl))) (mvT hZ (hw _ (List.mem_of_getElem? (i := 75) rfl))) (notFace_of_selects (args := #[]) (mvT hZ (hw _ (List.mem_of_getElem? (i := 77) rfl)))) (mvT hZ (hw _ (List.mem_of_getElem? (i := 77) rfl))) (mvT hZ (hw _ (List.mem_of_getElem? (i := 76) rfl))) (by decide) (own_eqB (W := 0) hZ hweq (hw _ (List.mem_of_getElem? (i := 2) rfl)) cy65 cy67 cy69 hcs (by decide) (by decide)) q70a q70c (g := (mkF m 32 #[.val (.ref u0), .val (.ref b59), .val (.ref b2), .val (.int (4 : Int32)), .val (.int (1 : Int32)), .val (.ref (A 1))] [(.ref u0), (.ref (NM 1))])) rfl (by rw [hml]; rfl) (Steps.refl _) (argsL := [(.ref u0)]) (rest := []) (lenOf pd_8 rfl) rfl (by show 2 * 0 + _ ≤ _; exact Nat.le_of_eq rfl) (hb hby d18_32) (fun _ _ => ⟨rfl, e63, (by decide : 2 + 0 ≤ _), (by decide : 5 + 0 ≤ _)⟩)
    dsimp only [Pt.U, Pt.locs, Pt.cells, Pt.slots] at X70 l70 y70 z70 st70 hQ70
    rw [l70, y70, z70] at X70
    obtain ⟨rfl, rfl, e70⟩ := hQ70
    have N70 := Fr.app N59 (Fr.nil n0)
    have hd35_71 : (if own_c1 = cs then (1 : Int32) else (0 : Int32)) = (0 : Int32) := by exact if_neg (fun q => absurd ((own_if1 hc35_8).trans q.symm) (by decide))
    obtain ⟨cl72, Ar72, qq72, S72, M72, H72, G72⟩ := id (VI2.keep K59q (by simp))
    have hin72 : ¬ ((2 : Int32) < 0 ∨ cl72.slots.size ≤ ((2 : Int32)).toNatClampNeg) := inb_of S72 ⟨by decide, by decide⟩
    have hat72 : cl72.slots[((2 : Int32)).toNatClampNeg]? = some (.ref (A 2)) := H72 2 (by rw [S72]; decide)
    have cy73 := (wf2.keep K2q (by simp))
    have cy74 := (cy73.keep K59q (by simp))
    obtain ⟨T75, X75, e75, st75⟩ := getF X70 hx hZ hown (host := "") (Or.inl (hw _ (List.mem_of_getElem? (i := 111) rfl))) Via.refl e70 cy74 (g := (mkF m 28 #[.val (.ref u0), .val (.ref b59), .val (.ref b2), .val (.int (4 : Int32)), .val (.int (2 : Int32)), .val (.ref (A 2))] [(.ref (A 2))])) rfl rfl (hb hby d18_28)
    have cy76 := (wt2.keep0 K2q)
    have cy77 := (cy76.keep0 K59q)
    obtain ⟨cq78, kq78, q78a, q78b, q78c⟩ := isOf hZ e75 (own_Str.exa cy77)
    obtain ⟨_, _, ⟨T78, L78, k78, n78⟩, -, X78, ⟨Lc78, hQ78, l78, y78, z78⟩, st78⟩ := X75.virtualBack hx (y := (⟨"java/lang/String", "equals", "(Ljava/lang/Object;)Z"⟩ : MethodName)) (z := (⟨"java/lang/String", "equals", "(Ljava/lang/Object;)Z"⟩ : MethodName)) hown (mvT hZ (hw _ (List.mem_of_getElem? (i := 113) rfl))) (mvT hZ (hw _ (List.mem_of_getElem? (i := 75) rfl))) (notFace_of_selects (args := #[]) (mvT hZ (hw _ (List.mem_of_getElem? (i := 77) rfl)))) (mvT hZ (hw _ (List.mem_of_getElem? (i := 77) rfl))) (mvT hZ (hw _ (List.mem_of_getElem? (i := 76) rfl))) (by decide) (own_eqB (W := 0) hZ hweq (hw _ (List.mem_of_getElem? (i := 2) rfl)) cy77 cy67 cy69 hcs (by decide) (by decide)) q78a q78c (g := (mkF m 32 #[.val (.ref u0), .val (.ref b59), .val (.ref b2), .val (.int (4 : Int32)), .val (.int (2 : Int32)), .val (.ref (A 2))] [(.ref u0), (.ref (NM 2))])) rfl (by rw [hml]; rfl) (Steps.refl _) (argsL := [(.ref u0)]) (rest := []) (lenOf pd_8 rfl) rfl (by show 2 * 0 + _ ≤ _; exact Nat.le_of_eq rfl) (hb hby d18_32) (fun _ _ => ⟨rfl, e75, (by decide : 2 + 0 ≤ _), (by decide : 5 + 0 ≤ _)⟩)
    dsimp only [Pt.U, Pt.locs, Pt.cells, Pt.slots] at X78 l78 y78 z78 st78 hQ78
    rw [l78, y78, z78] at X78
    obtain ⟨rfl, rfl, e78⟩ := hQ78
    have N78 := Fr.app N70 (Fr.nil n0)
    have hd35_79 : (if own_c2 = cs then (1 : Int32) else (0 : Int32)) = (0 : Int32) := by exact if_neg (fun q => absurd ((own_if1 hc35_8).trans q.symm) (by decide))
    obtain ⟨cl80, Ar80, qq80, S80, M80, H80, G80⟩ := id (VI2.keep K59q (by simp))
    have hin80 : ¬ ((3 : Int32) < 0 ∨ cl80.slots.size ≤ ((3 : Int32)).toNatClampNeg) := inb_of S80 ⟨by decide, by decide⟩
    have hat80 : cl80.slots[((3 : Int32)).toNatClampNeg]? = some (.ref (A 3)) := H80 3 (by rw [S80]; decide)
    have cy81 := (wf3.keep K2q (by simp))
    have cy82 := (cy81.keep K59q (by simp))
    obtain ⟨T83, X83, e83, st83⟩ := getF X78 hx hZ hown (host := "") (Or.inl (hw _ (List.mem_of_getElem? (i := 111) rfl))) Via.refl e78 cy82 (g := (mkF m 28 #[.val (.ref u0), .val (.ref b59), .val (.ref b2), .val (.int (4 : Int32)), .val (.int (3 : Int32)), .val (.ref (A 3))] [(.ref (A 3))])) rfl rfl (hb hby d18_28)
    have cy84 := (wt3.keep0 K2q)
    have cy85 := (cy84.keep0 K59q)
    obtain ⟨cq86, kq86, q86a, q86b, q86c⟩ := isOf hZ e83 (own_Str.exa cy85)
    obtain ⟨_, _, ⟨T86, L86, k86, n86⟩, -, X86, ⟨Lc86, hQ86, l86, y86, z86⟩, st86⟩ := X83.virtualBack hx (y := (⟨"java/lang/String", "equals", "(Ljava/lang/Object;)Z"⟩ : MethodName)) (z := (⟨"java/lang/String", "equals", "(Ljava/lang/Object;)Z"⟩ : MethodName)) hown (mvT hZ (hw _ (List.mem_of_getElem? (i := 113) rfl))) (mvT hZ (hw _ (List.mem_of_getElem? (i := 75) rfl))) (notFace_of_selects (args := #[]) (mvT hZ (hw _ (List.mem_of_getElem? (i := 77) rfl)))) (mvT hZ (hw _ (List.mem_of_getElem? (i := 77) rfl))) (mvT hZ (hw _ (List.mem_of_getElem? (i := 76) rfl))) (by decide) (own_eqB (W := 0) hZ hweq (hw _ (List.mem_of_getElem? (i := 2) rfl)) cy85 cy67 cy69 hcs (by decide) (by decide)) q86a q86c (g := (mkF m 32 #[.val (.ref u0), .val (.ref b59), .val (.ref b2), .val (.int (4 : Int32)), .val (.int (3 : Int32)), .val (.ref (A 3))] [(.ref u0), (.ref (NM 3))])) rfl (by rw [hml]; rfl) (Steps.refl _) (argsL := [(.ref u0)]) (rest := []) (lenOf pd_8 rfl) rfl (by show 2 * 0 + _ ≤ _; exact Nat.le_of_eq rfl) (hb hby d18_32) (fun _ _ => ⟨rfl, e83, (by decide : 2 + 0 ≤ _), (by decide : 5 + 0 ≤ _)⟩)
    dsimp only [Pt.U, Pt.locs, Pt.cells, Pt.slots] at X86 l86 y86 z86 st86 hQ86
    rw [l86, y86, z86] at X86
    obtain ⟨rfl, rfl, e86⟩ := hQ86
    have N86 := Fr.app N78 (Fr.nil n0)
    have hd35_87 : (if own_c3 = cs then (1 : Int32) else (0 : Int32)) = (0 : Int32) := by exact if_neg (fun q => absurd ((own_if1 hc35_8).trans q.symm) (by decide))
    obtain ⟨fs, hr, hrun, hended, hW, hsame⟩ := X86.leave (v := some (.ref b59)) (fun h => by rw [Bd.returns] at h; cases h)
    refine ⟨_, _, ?_, hrun, hended, _, _, rfl, ?_, ⟨_, rfl⟩, hW, hsame.mono (by decide) (by decide)⟩
    · show Steps p.tables e below (T6.setTop (mkF m 38 #[.val (.ref u0), .val (.ref em), .val (.ref b2), .val (.int (4 : Int32)), .val (.int (0 : Int32)), .val (.ref (A 0))] [])) _
      refine XS.aload X6.here hx rfl (hb hby d18_38) rfl rfl ?_
      show Steps p.tables e below (T6.setTop (mkF m 40 #[.val (.ref u0), .val (.ref em), .val (.ref b2), .val (.int (4 : Int32)), .val (.int (0 : Int32)), .val (.ref (A 0))] [(.ref (A 0))])) _
      refine st59 _ ?_
      show Steps p.tables e below (T59.setTop (mkF m 43 #[.val (.ref u0), .val (.ref em), .val (.ref b2), .val (.int (4 : Int32)), .val (.int (0 : Int32)), .val (.ref (A 0))] [(.ref b59)])) _
      refine XS.astoreN X59.here hx rfl (hb hby d18_43) rfl rfl (l' := #[.val (.ref u0), .val (.ref b59), .val (.ref b2), .val (.int (4 : Int32)), .val (.int (0 : Int32)), .val (.ref (A 0))]) rfl ?_
      show Steps p.tables e below (T59.setTop (mkF m 44 #[.val (.ref u0), .val (.ref b59), .val (.ref b2), .val (.int (4 : Int32)), .val (.int (0 : Int32)), .val (.ref (A 0))] [])) _
      refine XS.iinc X59.here hx rfl (hb hby d18_44) rfl (l' := #[.val (.ref u0), .val (.ref b59), .val (.ref b2), .val (.int (4 : Int32)), .val (.int ((0 : Int32) + (1 : Int32))), .val (.ref (A 0))]) rfl ?_
      rw [show ((0 : Int32) + (1 : Int32)) = (1 : Int32) from by decide]
      show Steps p.tables e below (T59.setTop (mkF m 47 #[.val (.ref u0), .val (.ref b59), .val (.ref b2), .val (.int (4 : Int32)), .val (.int (1 : Int32)), .val (.ref (A 0))] [])) _
      refine XS.goto X59.here hx rfl (pc0 := 47) (pc' := 14) rfl (hb hby d18_47) (by decide) (by decide) ?_
      show Steps p.tables e below (T59.setTop (mkF m 14 #[.val (.ref u0), .val (.ref b59), .val (.ref b2), .val (.int (4 : Int32)), .val (.int (1 : Int32)), .val (.ref (A 0))] [])) _
      refine XS.iload X59.here hx rfl (hb hby d18_14) rfl ?_
      show Steps p.tables e below (T59.setTop (mkF m 16 #[.val (.ref u0), .val (.ref b59), .val (.ref b2), .val (.int (4 : Int32)), .val (.int (1 : Int32)), .val (.ref (A 0))] [(.int (1 : Int32))])) _
      refine XS.iloadN X59.here hx rfl (hb hby d18_16) rfl ?_
      show Steps p.tables e below (T59.setTop (mkF m 17 #[.val (.ref u0), .val (.ref b59), .val (.ref b2), .val (.int (4 : Int32)), .val (.int (1 : Int32)), .val (.ref (A 0))] [(.int (4 : Int32)), (.int (1 : Int32))])) _
      refine XS.icmpNo X59.here hx rfl (hb hby d18_17) rfl (tlt (by decide : (1 : Int32) < (4 : Int32))).2.1 ?_
      show Steps p.tables e below (T59.setTop (mkF m 20 #[.val (.ref u0), .val (.ref b59), .val (.ref b2), .val (.int (4 : Int32)), .val (.int (1 : Int32)), .val (.ref (A 0))] [])) _
      refine XS.aloadN X59.here hx rfl (hb hby d18_20) rfl rfl ?_
      show Steps p.tables e below (T59.setTop (mkF m 21 #[.val (.ref u0), .val (.ref b59), .val (.ref b2), .val (.int (4 : Int32)), .val (.int (1 : Int32)), .val (.ref (A 0))] [(.ref b2)])) _
      refine XS.iload X59.here hx rfl (hb hby d18_21) rfl ?_
      show Steps p.tables e below (T59.setTop (mkF m 23 #[.val (.ref u0), .val (.ref b59), .val (.ref b2), .val (.int (4 : Int32)), .val (.int (1 : Int32)), .val (.ref (A 0))] [(.int (1 : Int32)), (.ref b2)])) _
      refine X59.aaload hx (j := (1 : Int32)) (v := (.ref (A 1))) Ar60.1 (State.isArrayOf_alike hZ.alike Ar60.2.1) rfl Ar60.2.2 hin60 hat60 (g := (mkF m 23 #[.val (.ref u0), .val (.ref b59), .val (.ref b2), .val (.int (4 : Int32)), .val (.int (1 : Int32)), .val (.ref (A 0))] [(.int (1 : Int32)), (.ref b2)])) rfl rfl (hb hby d18_23) _ ?_
      show Steps p.tables e below (T59.setTop (mkF m 24 #[.val (.ref u0), .val (.ref b59), .val (.ref b2), .val (.int (4 : Int32)), .val (.int (1 : Int32)), .val (.ref (A 0))] [(.ref (A 1))])) _
      refine XS.astore X59.here hx rfl (hb hby d18_24) rfl rfl (l' := #[.val (.ref u0), .val (.ref b59), .val (.ref b2), .val (.int (4 : Int32)), .val (.int (1 : Int32)), .val (.ref (A 1))]) rfl ?_
      show Steps p.tables e below (T59.setTop (mkF m 26 #[.val (.ref u0), .val (.ref b59), .val (.ref b2), .val (.int (4 : Int32)), .val (.int (1 : Int32)), .val (.ref (A 1))] [])) _
      refine XS.aload X59.here hx rfl (hb hby d18_26) rfl rfl ?_
      show Steps p.tables e below (T59.setTop (mkF m 28 #[.val (.ref u0), .val (.ref b59), .val (.ref b2), .val (.int (4 : Int32)), .val (.int (1 : Int32)), .val (.ref (A 1))] [(.ref (A 1))])) _
      refine st63 _ ?_
      show Steps p.tables e below (T63.setTop (mkF m 31 #[.val (.ref u0), .val (.ref b59), .val (.ref b2), .val (.int (4 : Int32)), .val (.int (1 : Int32)), .val (.ref (A 1))] [(.ref (NM 1))])) _
      refine XS.aloadN X63.here hx rfl (hb hby d18_31) rfl rfl ?_
      show Steps p.tables e below (T63.setTop (mkF m 32 #[.val (.ref u0), .val (.ref b59), .val (.ref b2), .val (.int (4 : Int32)), .val (.int (1 : Int32)), .val (.ref (A 1))] [(.ref u0), (.ref (NM 1))])) _
      refine st70.trans ?_
      show Steps p.tables e below (T70.setTop (mkF m 35 #[.val (.ref u0), .val (.ref b59), .val (.ref b2), .val (.int (4 : Int32)), .val (.int (1 : Int32)), .val (.ref (A 1))] [(.int (if own_c1 = cs then (1 : Int32) else (0 : Int32)))])) _
      refine XS.ifYes X70.here hx rfl (pc0 := 35) (pc' := 44) rfl (hb hby d18_35) rfl ((if0 _ _).trans (teq hd35_71).1) (by decide) (by decide) ?_
      show Steps p.tables e below (T70.setTop (mkF m 44 #[.val (.ref u0), .val (.ref b59), .val (.ref b2), .val (.int (4 : Int32)), .val (.int (1 : Int32)), .val (.ref (A 1))] [])) _
      refine XS.iinc X70.here hx rfl (hb hby d18_44) rfl (l' := #[.val (.ref u0), .val (.ref b59), .val (.ref b2), .val (.int (4 : Int32)), .val (.int ((1 : Int32) + (1 : Int32))), .val (.ref (A 1))]) rfl ?_
      rw [show ((1 : Int32) + (1 : Int32)) = (2 : Int32) from by decide]
      show Steps p.tables e below (T70.setTop (mkF m 47 #[.val (.ref u0), .val (.ref b59), .val (.ref b2), .val (.int (4 : Int32)), .val (.int (2 : Int32)), .val (.ref (A 1))] [])) _
      refine XS.goto X70.here hx rfl (pc0 := 47) (pc' := 14) rfl (hb hby d18_47) (by decide) (by decide) ?_
      show Steps p.tables e below (T70.setTop (mkF m 14 #[.val (.ref u0), .val (.ref b59), .val (.ref b2), .val (.int (4 : Int32)), .val (.int (2 : Int32)), .val (.ref (A 1))] [])) _
      refine XS.iload X70.here hx rfl (hb hby d18_14) rfl ?_
      show Steps p.tables e below (T70.setTop (mkF m 16 #[.val (.ref u0), .val (.ref b59), .val (.ref b2), .val (.int (4 : Int32)), .val (.int (2 : Int32)), .val (.ref (A 1))] [(.int (2 : Int32))])) _
      refine XS.iloadN X70.here hx rfl (hb hby d18_16) rfl ?_
      show Steps p.tables e below (T70.setTop (mkF m 17 #[.val (.ref u0), .val (.ref b59), .val (.ref b2), .val (.int (4 : Int32)), .val (.int (2 : Int32)), .val (.ref (A 1))] [(.int (4 : Int32)), (.int (2 : Int32))])) _
      refine XS.icmpNo X70.here hx rfl (hb hby d18_17) rfl (tlt (by decide : (2 : Int32) < (4 : Int32))).2.1 ?_
      show Steps p.tables e below (T70.setTop (mkF m 20 #[.val (.ref u0), .val (.ref b59), .val (.ref b2), .val (.int (4 : Int32)), .val (.int (2 : Int32)), .val (.ref (A 1))] [])) _
      refine XS.aloadN X70.here hx rfl (hb hby d18_20) rfl rfl ?_
      show Steps p.tables e below (T70.setTop (mkF m 21 #[.val (.ref u0), .val (.ref b59), .val (.ref b2), .val (.int (4 : Int32)), .val (.int (2 : Int32)), .val (.ref (A 1))] [(.ref b2)])) _
      refine XS.iload X70.here hx rfl (hb hby d18_21) rfl ?_
      show Steps p.tables e below (T70.setTop (mkF m 23 #[.val (.ref u0), .val (.ref b59), .val (.ref b2), .val (.int (4 : Int32)), .val (.int (2 : Int32)), .val (.ref (A 1))] [(.int (2 : Int32)), (.ref b2)])) _
      refine X70.aaload hx (j := (2 : Int32)) (v := (.ref (A 2))) (by rw [e70]; exact Ar72.1) (State.isArrayOf_alike hZ.alike Ar72.2.1) rfl Ar72.2.2 hin72 hat72 (g := (mkF m 23 #[.val (.ref u0), .val (.ref b59), .val (.ref b2), .val (.int (4 : Int32)), .val (.int (2 : Int32)), .val (.ref (A 1))] [(.int (2 : Int32)), (.ref b2)])) rfl rfl (hb hby d18_23) _ ?_
      show Steps p.tables e below (T70.setTop (mkF m 24 #[.val (.ref u0), .val (.ref b59), .val (.ref b2), .val (.int (4 : Int32)), .val (.int (2 : Int32)), .val (.ref (A 1))] [(.ref (A 2))])) _
      refine XS.astore X70.here hx rfl (hb hby d18_24) rfl rfl (l' := #[.val (.ref u0), .val (.ref b59), .val (.ref b2), .val (.int (4 : Int32)), .val (.int (2 : Int32)), .val (.ref (A 2))]) rfl ?_
      show Steps p.tables e below (T70.setTop (mkF m 26 #[.val (.ref u0), .val (.ref b59), .val (.ref b2), .val (.int (4 : Int32)), .val (.int (2 : Int32)), .val (.ref (A 2))] [])) _
      refine XS.aload X70.here hx rfl (hb hby d18_26) rfl rfl ?_
      show Steps p.tables e below (T70.setTop (mkF m 28 #[.val (.ref u0), .val (.ref b59), .val (.ref b2), .val (.int (4 : Int32)), .val (.int (2 : Int32)), .val (.ref (A 2))] [(.ref (A 2))])) _
      refine st75 _ ?_
      show Steps p.tables e below (T75.setTop (mkF m 31 #[.val (.ref u0), .val (.ref b59), .val (.ref b2), .val (.int (4 : Int32)), .val (.int (2 : Int32)), .val (.ref (A 2))] [(.ref (NM 2))])) _
      refine XS.aloadN X75.here hx rfl (hb hby d18_31) rfl rfl ?_
      show Steps p.tables e below (T75.setTop (mkF m 32 #[.val (.ref u0), .val (.ref b59), .val (.ref b2), .val (.int (4 : Int32)), .val (.int (2 : Int32)), .val (.ref (A 2))] [(.ref u0), (.ref (NM 2))])) _
      refine st78.trans ?_
      show Steps p.tables e below (T78.setTop (mkF m 35 #[.val (.ref u0), .val (.ref b59), .val (.ref b2), .val (.int (4 : Int32)), .val (.int (2 : Int32)), .val (.ref (A 2))] [(.int (if own_c2 = cs then (1 : Int32) else (0 : Int32)))])) _
      refine XS.ifYes X78.here hx rfl (pc0 := 35) (pc' := 44) rfl (hb hby d18_35) rfl ((if0 _ _).trans (teq hd35_79).1) (by decide) (by decide) ?_
      show Steps p.tables e below (T78.setTop (mkF m 44 #[.val (.ref u0), .val (.ref b59), .val (.ref b2), .val (.int (4 : Int32)), .val (.int (2 : Int32)), .val (.ref (A 2))] [])) _
      refine XS.iinc X78.here hx rfl (hb hby d18_44) rfl (l' := #[.val (.ref u0), .val (.ref b59), .val (.ref b2), .val (.int (4 : Int32)), .val (.int ((2 : Int32) + (1 : Int32))), .val (.ref (A 2))]) rfl ?_
      rw [show ((2 : Int32) + (1 : Int32)) = (3 : Int32) from by decide]
      show Steps p.tables e below (T78.setTop (mkF m 47 #[.val (.ref u0), .val (.ref b59), .val (.ref b2), .val (.int (4 : Int32)), .val (.int (3 : Int32)), .val (.ref (A 2))] [])) _
      refine XS.goto X78.here hx rfl (pc0 := 47) (pc' := 14) rfl (hb hby d18_47) (by decide) (by decide) ?_
      show Steps p.tables e below (T78.setTop (mkF m 14 #[.val (.ref u0), .val (.ref b59), .val (.ref b2), .val (.int (4 : Int32)), .val (.int (3 : Int32)), .val (.ref (A 2))] [])) _
      refine XS.iload X78.here hx rfl (hb hby d18_14) rfl ?_
      show Steps p.tables e below (T78.setTop (mkF m 16 #[.val (.ref u0), .val (.ref b59), .val (.ref b2), .val (.int (4 : Int32)), .val (.int (3 : Int32)), .val (.ref (A 2))] [(.int (3 : Int32))])) _
      refine XS.iloadN X78.here hx rfl (hb hby d18_16) rfl ?_
      show Steps p.tables e below (T78.setTop (mkF m 17 #[.val (.ref u0), .val (.ref b59), .val (.ref b2), .val (.int (4 : Int32)), .val (.int (3 : Int32)), .val (.ref (A 2))] [(.int (4 : Int32)), (.int (3 : Int32))])) _
      refine XS.icmpNo X78.here hx rfl (hb hby d18_17) rfl (tlt (by decide : (3 : Int32) < (4 : Int32))).2.1 ?_
      show Steps p.tables e below (T78.setTop (mkF m 20 #[.val (.ref u0), .val (.ref b59), .val (.ref b2), .val (.int (4 : Int32)), .val (.int (3 : Int32)), .val (.ref (A 2))] [])) _
      refine XS.aloadN X78.here hx rfl (hb hby d18_20) rfl rfl ?_
      show Steps p.tables e below (T78.setTop (mkF m 21 #[.val (.ref u0), .val (.ref b59), .val (.ref b2), .val (.int (4 : Int32)), .val (.int (3 : Int32)), .val (.ref (A 2))] [(.ref b2)])) _
      refine XS.iload X78.here hx rfl (hb hby d18_21) rfl ?_
      show Steps p.tables e below (T78.setTop (mkF m 23 #[.val (.ref u0), .val (.ref b59), .val (.ref b2), .val (.int (4 : Int32)), .val (.int (3 : Int32)), .val (.ref (A 2))] [(.int (3 : Int32)), (.ref b2)])) _
      refine X78.aaload hx (j := (3 : Int32)) (v := (.ref (A 3))) (by rw [e78]; exact Ar80.1) (State.isArrayOf_alike hZ.alike Ar80.2.1) rfl Ar80.2.2 hin80 hat80 (g := (mkF m 23 #[.val (.ref u0), .val (.ref b59), .val (.ref b2), .val (.int (4 : Int32)), .val (.int (3 : Int32)), .val (.ref (A 2))] [(.int (3 : Int32)), (.ref b2)])) rfl rfl (hb hby d18_23) _ ?_
      show Steps p.tables e below (T78.setTop (mkF m 24 #[.val (.ref u0), .val (.ref b59), .val (.ref b2), .val (.int (4 : Int32)), .val (.int (3 : Int32)), .val (.ref (A 2))] [(.ref (A 3))])) _
      refine XS.astore X78.here hx rfl (hb hby d18_24) rfl rfl (l' := #[.val (.ref u0), .val (.ref b59), .val (.ref b2), .val (.int (4 : Int32)), .val (.int (3 : Int32)), .val (.ref (A 3))]) rfl ?_
      show Steps p.tables e below (T78.setTop (mkF m 26 #[.val (.ref u0), .val (.ref b59), .val (.ref b2), .val (.int (4 : Int32)), .val (.int (3 : Int32)), .val (.ref (A 3))] [])) _
      refine XS.aload X78.here hx rfl (hb hby d18_26) rfl rfl ?_
      show Steps p.tables e below (T78.setTop (mkF m 28 #[.val (.ref u0), .val (.ref b59), .val (.ref b2), .val (.int (4 : Int32)), .val (.int (3 : Int32)), .val (.ref (A 3))] [(.ref (A 3))])) _
      refine st83 _ ?_
      show Steps p.tables e below (T83.setTop (mkF m 31 #[.val (.ref u0), .val (.ref b59), .val (.ref b2), .val (.int (4 : Int32)), .val (.int (3 : Int32)), .val (.ref (A 3))] [(.ref (NM 3))])) _
      refine XS.aloadN X83.here hx rfl (hb hby d18_31) rfl rfl ?_
      show Steps p.tables e below (T83.setTop (mkF m 32 #[.val (.ref u0), .val (.ref b59), .val (.ref b2), .val (.int (4 : Int32)), .val (.int (3 : Int32)), .val (.ref (A 3))] [(.ref u0), (.ref (NM 3))])) _
      refine st86.trans ?_
      show Steps p.tables e below (T86.setTop (mkF m 35 #[.val (.ref u0), .val (.ref b59), .val (.ref b2), .val (.int (4 : Int32)), .val (.int (3 : Int32)), .val (.ref (A 3))] [(.int (if own_c3 = cs then (1 : Int32) else (0 : Int32)))])) _
      refine XS.ifYes X86.here hx rfl (pc0 := 35) (pc' := 44) rfl (hb hby d18_35) rfl ((if0 _ _).trans (teq hd35_87).1) (by decide) (by decide) ?_
      show Steps p.tables e below (T86.setTop (mkF m 44 #[.val (.ref u0), .val (.ref b59), .val (.ref b2), .val (.int (4 : Int32)), .val (.int (3 : Int32)), .val (.ref (A 3))] [])) _
      refine XS.iinc X86.here hx rfl (hb hby d18_44) rfl (l' := #[.val (.ref u0), .val (.ref b59), .val (.ref b2), .val (.int (4 : Int32)), .val (.int ((3 : Int32) + (1 : Int32))), .val (.ref (A 3))]) rfl ?_
      rw [show ((3 : Int32) + (1 : Int32)) = (4 : Int32) from by decide]
      show Steps p.tables e below (T86.setTop (mkF m 47 #[.val (.ref u0), .val (.ref b59), .val (.ref b2), .val (.int (4 : Int32)), .val (.int (4 : Int32)), .val (.ref (A 3))] [])) _
      refine XS.goto X86.here hx rfl (pc0 := 47) (pc' := 14) rfl (hb hby d18_47) (by decide) (by decide) ?_
      show Steps p.tables e below (T86.setTop (mkF m 14 #[.val (.ref u0), .val (.ref b59), .val (.ref b2), .val (.int (4 : Int32)), .val (.int (4 : Int32)), .val (.ref (A 3))] [])) _
      refine XS.iload X86.here hx rfl (hb hby d18_14) rfl ?_
      show Steps p.tables e below (T86.setTop (mkF m 16 #[.val (.ref u0), .val (.ref b59), .val (.ref b2), .val (.int (4 : Int32)), .val (.int (4 : Int32)), .val (.ref (A 3))] [(.int (4 : Int32))])) _
      refine XS.iloadN X86.here hx rfl (hb hby d18_16) rfl ?_
      show Steps p.tables e below (T86.setTop (mkF m 17 #[.val (.ref u0), .val (.ref b59), .val (.ref b2), .val (.int (4 : Int32)), .val (.int (4 : Int32)), .val (.ref (A 3))] [(.int (4 : Int32)), (.int (4 : Int32))])) _
      refine XS.icmpYes X86.here hx rfl (pc0 := 17) (pc' := 50) rfl (hb hby d18_17) rfl (flt (by decide : ¬ ((4 : Int32) < (4 : Int32)))).2.1 (by decide) (by decide) ?_
      show Steps p.tables e below (T86.setTop (mkF m 50 #[.val (.ref u0), .val (.ref b59), .val (.ref b2), .val (.int (4 : Int32)), .val (.int (4 : Int32)), .val (.ref (A 3))] [])) _
      refine XS.aloadN X86.here hx rfl (hb hby d18_50) rfl rfl ?_
      show Steps p.tables e below (T86.setTop (mkF m 51 #[.val (.ref u0), .val (.ref b59), .val (.ref b2), .val (.int (4 : Int32)), .val (.int (4 : Int32)), .val (.ref (A 3))] [(.ref b59)])) _
      jvm_step X86.here [X86.here.top, hx, (hb hby d18_51), X86.method', Bd.returns, Value.isRef, FieldType.isReference]
      first | (intro acts; rw [hr _ acts rfl rfl rfl]) | rw [hr _ _ rfl rfl rfl]
      exact Steps.refl _
    · show Q18 Z u0 A NM va em kv dv cs cz h0 n0 _ T86.heap _
      rw [e86]
      have OV : own_opt A cs = (.ref (A 0)) := by
        unfold own_opt
        rw [if_pos (own_if1 hc35_8)]
      have FO := FI59
      rw [← OV] at FO
      exact ⟨b59, rfl, N86, Kp59, EI59, FO⟩
theorem pn_0 : plainName "com/example/ensyn/ensyn/region/NetClassNamedPinLaw" = true := by first | (simp [plainName, overriddenIn]; done) | decide +kernel
theorem pd_10 : parseMethodDescriptor "(Ljava/lang/String;)Ljava/util/Optional;" = some ⟨[(.object "java/lang/String")], some (.object "java/util/Optional")⟩ := by decide +kernel
theorem pd_11 : parseMethodDescriptor "()Z" = some ⟨[], some .boolean⟩ := by decide +kernel
theorem pd_12 : parseMethodDescriptor "()Ljava/lang/Object;" = some ⟨[], some (.object "java/lang/Object")⟩ := by decide +kernel
theorem pd_13 : parseMethodDescriptor "(ICCCCCC)Ljava/lang/String;" = some ⟨[.int, .char, .char, .char, .char, .char, .char], some (.object "java/lang/String")⟩ := by decide +kernel
theorem pd_14 : parseMethodDescriptor "(ILjava/lang/String;IJ)C" = some ⟨[.int, (.object "java/lang/String"), .int, .long], some .char⟩ := by decide +kernel
theorem ef_0 (m : MethodId) (p0 : Int32) (p1 : Int32) (p2 : Int32) (p3 : Int32) (q4 : Int64)  : entryFrame m #[(.int p0), (.int p1), (.int p2), (.int p3), (.long q4)] maxLocals = mkF m 0 #[.val (.int p0), .val (.int p1), .val (.int p2), .val (.int p3), .val (.long q4), .second, .unset, .unset, .unset, .unset, .unset, .unset, .unset, .unset, .unset, .unset, .unset, .unset, .unset, .unset, .unset, .unset, .unset, .unset] [] := by first | (simp [entryFrame, mkF, argsToLocals, Value.category, maxLocals]; done) | rfl
def Q0 (Z : State) (p0 : Int32) (p1 : Int32) (p2 : Int32) (p3 : Int32) (q4 : Int64) (A : Nat → Addr) (NM : Nat → Addr) (va : Addr) (em : Addr) (kv : ClassId) (dv : Value) (cz : Int32) (fm : Value) (h0 : Heap) (n0 : Nat) (v : Option Value) (h : Heap) (L : List Loc) : Prop := v = some (.int 1) ∧ Fr n0 L
set_option maxRecDepth 65536 in
set_option maxHeartbeats 40000000 in
theorem rm0 (l : Launch) (Z : State) (a0 : Array Value) (hw : ∀ d ∈ tables_1, d.before a0 Z = true) (ws : List Jvm.Cond) (p0 : Int32) (p1 : Int32) (p2 : Int32) (p3 : Int32) (q4 : Int64) (A : Nat → Addr) (NM : Nat → Addr) (va : Addr) (em : Addr) (kv : ClassId) (dv : Value) (cz : Int32) (fm : Value) (h0 : Heap) (n0 : Nat) (Z0 : n0 ≤ h0.size) (S_COMPACT_STRINGS : Sta Z Z.heap "java/lang/String" "COMPACT_STRINGS" "Z" (.int cz)) (hcs : ¬ cz = (0 : Int32)) (S_VALUES : Sta Z Z.heap "com/example/ensyn/ensyn/region/NetClass" "$VALUES" "[Lcom/example/ensyn/ensyn/region/NetClass;" (.ref va)) (S_EMPTY : Sta Z Z.heap "java/util/Optional" "EMPTY" "Ljava/util/Optional;" (.ref em)) (S_SIOOBE_FORMATTER : Sta Z Z.heap "jdk/internal/util/Preconditions" "SIOOBE_FORMATTER" "Ljava/util/function/BiFunction;" fm) (hfm : fm.isRef = true) (S_PLAIN : Sta Z Z.heap "com/example/ensyn/ensyn/region/NetClass" "PLAIN" "Lcom/example/ensyn/ensyn/region/NetClass;" (.ref (A 0))) (S_PURE : Sta Z Z.heap "com/example/ensyn/ensyn/region/NetClass" "PURE" "Lcom/example/ensyn/ensyn/region/NetClass;" (.ref (A 1))) (S_WEIGHTED_MARKED_GRAPH : Sta Z Z.heap "com/example/ensyn/ensyn/region/NetClass" "WEIGHTED_MARKED_GRAPH" "Lcom/example/ensyn/ensyn/region/NetClass;" (.ref (A 2))) (S_CHOICE_FREE : Sta Z Z.heap "com/example/ensyn/ensyn/region/NetClass" "CHOICE_FREE" "Lcom/example/ensyn/ensyn/region/NetClass;" (.ref (A 3))) (HW : own_W Z h0 A NM va em kv dv) (OZ : Old Z n0 h0) :
    MetFree l x (head1 (Jvm.Cond.code x code maxLocals ret :: ws) room_1) (fun a U => a = #[(.int p0), (.int p1), (.int p2), (.int p3), (.long q4)] ∧ Z.Warmed39 U.vm ∧ U.heap = h0 ∧ CHv Z [("com/example/ensyn/ensyn/region/NetClassNamedPinLaw", 7), ("com/example/ensyn/ensyn/region/NetClassNamedPinLaw", 9), ("com/example/ensyn/ensyn/region/NetClassNamedPinLaw", 11), ("com/example/ensyn/ensyn/region/NetClassNamedPinLaw", 13), ("java/lang/String", 7)] U.vm h0) (fun _ _ _ _ _ => True) (fun _ U o U' => ∃ v L, o = .returned v ∧ Q0 Z p0 p1 p2 p3 q4 A NM va em kv dv cz fm h0 n0 v U'.heap L ∧ ReturnedEndW U o U' L room_1.cells room_1.slots) := by
  refine MetFree.of_bodySF (plainFor_of_name pn_0) hisR ?_
  intro p e s m args below meth c s₁ Bd hml0 hP hK
  obtain ⟨rfl, hZ, hh, hCH⟩ := hP
  have hx := Bd.exec
  have hby := Bd.bytes
  have hml : c.maxLocals = 24 := hml0
  have hown : s.vm.findClass "com/example/ensyn/ensyn/region/NetClassNamedPinLaw" = some m.cls := findClass_of_methodNamed Bd.named
  have hnm := (name_of_methodNamed Bd.named Bd.method).1
  have X0 : Stand p l e room_1 (s.setVm s.vm) m #[(.int p0), (.int p1), (.int p2), (.int p3), (.long q4)] below meth c s₁ [] 0 0 := Stand.of_body Bd
  have e0 : s₁.heap = h0 := by rw [← hh, Bd.state]; rfl
  have N0 := Fr.nil n0
  have pre0 : ∀ t, Steps p.tables e below (s₁.setTop (mkF m 0 #[.val (.int p0), .val (.int p1), .val (.int p2), .val (.int p3), .val (.long q4), .second, .unset, .unset, .unset, .unset, .unset, .unset, .unset, .unset, .unset, .unset, .unset, .unset, .unset, .unset, .unset, .unset, .unset, .unset] [])) t → Steps p.tables e below (s₁.setTop (entryFrame m #[(.int p0), (.int p1), (.int p2), (.int p3), (.long q4)] maxLocals)) t := fun t k => castTop (ef_0 m p0 p1 p2 p3 q4) k
  show Done p e below _ _
  refine Done.of ?_ pre0
  have hS0 : s.Since s.vm 0 := (State.WarmedH.refl s).since 0
  have hEW : EW Z a0 [("com/example/ensyn/ensyn/region/NetClassNamedPinLaw", 7), ("com/example/ensyn/ensyn/region/NetClassNamedPinLaw", 9), ("com/example/ensyn/ensyn/region/NetClassNamedPinLaw", 11), ("com/example/ensyn/ensyn/region/NetClassNamedPinLaw", 13), ("java/lang/String", 7)] := (EW.cons (hw _ (List.mem_of_getElem? (i := 0) rfl)) (by decide +kernel) (EW.cons (hw _ (List.mem_of_getElem? (i := 142) rfl)) (by decide +kernel) (EW.cons (hw _ (List.mem_of_getElem? (i := 141) rfl)) (by decide +kernel) (EW.cons (hw _ (List.mem_of_getElem? (i := 143) rfl)) (by decide +kernel) (EW.cons (hw _ (List.mem_of_getElem? (i := 145) rfl)) (by decide +kernel) EW.nil)))))
  have wS : ∀ a ∈ Bundle.stringAtoms, a.before a0 Z = true := fun d hd => hw d ((by decide +kernel : ∀ d ∈ Bundle.stringAtoms, d ∈ tables_1) d hd)
  have hwln : ∀ d ∈ StrChars.Road.wordsLen, d.before a0 Z = true := fun d hd => hw d ((by decide +kernel : ∀ d ∈ StrChars.Road.wordsLen, d ∈ tables_1) d hd)
  have hweq : ∀ d ∈ StrChars.Road.wordsEq, d.before a0 Z = true := fun d hd => hw d ((by decide +kernel : ∀ d ∈ StrChars.Road.wordsEq, d ∈ tables_1) d hd)
  obtain ⟨v1, ev1⟩ : ∃ z : Int32, z = (p0 &&& (7 : Int32)) := ⟨_, rfl⟩
  obtain ⟨v2, ev2⟩ : ∃ z : Int32, z = (v1 &&& (3 : Int32)) := ⟨_, rfl⟩
  have K3 : ∀ target, Steps p.tables e below (s₁.setTop (mkF m 12 #[.val (.int p0), .val (.int p1), .val (.int p2), .val (.int p3), .val (.long q4), .second, .val (.int v1), .val (.int v2), .unset, .unset, .unset, .unset, .unset, .unset, .unset, .unset, .unset, .unset, .unset, .unset, .unset, .unset, .unset, .unset] [])) target → Steps p.tables e below (s₁.setTop (mkF m 0 #[.val (.int p0), .val (.int p1), .val (.int p2), .val (.int p3), .val (.long q4), .second, .unset, .unset, .unset, .unset, .unset, .unset, .unset, .unset, .unset, .unset, .unset, .unset, .unset, .unset, .unset, .unset, .unset, .unset] [])) target := by
    intro target kt
    show Steps p.tables e below (s₁.setTop (mkF m 0 #[.val (.int p0), .val (.int p1), .val (.int p2), .val (.int p3), .val (.long q4), .second, .unset, .unset, .unset, .unset, .unset, .unset, .unset, .unset, .unset, .unset, .unset, .unset, .unset, .unset, .unset, .unset, .unset, .unset] [])) _
    refine XS.iloadN X0.here hx rfl (hb hby at_0) rfl ?_
    show Steps p.tables e below (s₁.setTop (mkF m 1 #[.val (.int p0), .val (.int p1), .val (.int p2), .val (.int p3), .val (.long q4), .second, .unset, .unset, .unset, .unset, .unset, .unset, .unset, .unset, .unset, .unset, .unset, .unset, .unset, .unset, .unset, .unset, .unset, .unset] [(.int p0)])) _
    refine XS.bipush X0.here hx rfl (hb hby at_1) ?_
    show Steps p.tables e below (s₁.setTop (mkF m 3 #[.val (.int p0), .val (.int p1), .val (.int p2), .val (.int p3), .val (.long q4), .second, .unset, .unset, .unset, .unset, .unset, .unset, .unset, .unset, .unset, .unset, .unset, .unset, .unset, .unset, .unset, .unset, .unset, .unset] [(.int (7 : Int32)), (.int p0)])) _
    refine XS.iand X0.here hx rfl (hb hby at_3) rfl ?_
    show Steps p.tables e below (s₁.setTop (mkF m 4 #[.val (.int p0), .val (.int p1), .val (.int p2), .val (.int p3), .val (.long q4), .second, .unset, .unset, .unset, .unset, .unset, .unset, .unset, .unset, .unset, .unset, .unset, .unset, .unset, .unset, .unset, .unset, .unset, .unset] [(.int (p0 &&& (7 : Int32)))])) _
    rw [← ev1]
    show Steps p.tables e below (s₁.setTop (mkF m 4 #[.val (.int p0), .val (.int p1), .val (.int p2), .val (.int p3), .val (.long q4), .second, .unset, .unset, .unset, .unset, .unset, .unset, .unset, .unset, .unset, .unset, .unset, .unset, .unset, .unset, .unset, .unset, .unset, .unset] [(.int v1)])) _
    refine XS.istore X0.here hx rfl (hb hby at_4) rfl (l' := #[.val (.int p0), .val (.int p1), .val (.int p2), .val (.int p3), .val (.long q4), .second, .val (.int v1), .unset, .unset, .unset, .unset, .unset, .unset, .unset, .unset, .unset, .unset, .unset, .unset, .unset, .unset, .unset, .unset, .unset]) rfl ?_
    show Steps p.tables e below (s₁.setTop (mkF m 6 #[.val (.int p0), .val (.int p1), .val (.int p2), .val (.int p3), .val (.long q4), .second, .val (.int v1), .unset, .unset, .unset, .unset, .unset, .unset, .unset, .unset, .unset, .unset, .unset, .unset, .unset, .unset, .unset, .unset, .unset] [])) _
    refine XS.iload X0.here hx rfl (hb hby at_6) rfl ?_
    show Steps p.tables e below (s₁.setTop (mkF m 8 #[.val (.int p0), .val (.int p1), .val (.int p2), .val (.int p3), .val (.long q4), .second, .val (.int v1), .unset, .unset, .unset, .unset, .unset, .unset, .unset, .unset, .unset, .unset, .unset, .unset, .unset, .unset, .unset, .unset, .unset] [(.int v1)])) _
    refine XS.iconst X0.here hx rfl (hb hby at_8) ?_
    show Steps p.tables e below (s₁.setTop (mkF m 9 #[.val (.int p0), .val (.int p1), .val (.int p2), .val (.int p3), .val (.long q4), .second, .val (.int v1), .unset, .unset, .unset, .unset, .unset, .unset, .unset, .unset, .unset, .unset, .unset, .unset, .unset, .unset, .unset, .unset, .unset] [(.int (3 : Int32)), (.int v1)])) _
    refine XS.iand X0.here hx rfl (hb hby at_9) rfl ?_
    show Steps p.tables e below (s₁.setTop (mkF m 10 #[.val (.int p0), .val (.int p1), .val (.int p2), .val (.int p3), .val (.long q4), .second, .val (.int v1), .unset, .unset, .unset, .unset, .unset, .unset, .unset, .unset, .unset, .unset, .unset, .unset, .unset, .unset, .unset, .unset, .unset] [(.int (v1 &&& (3 : Int32)))])) _
    rw [← ev2]
    show Steps p.tables e below (s₁.setTop (mkF m 10 #[.val (.int p0), .val (.int p1), .val (.int p2), .val (.int p3), .val (.long q4), .second, .val (.int v1), .unset, .unset, .unset, .unset, .unset, .unset, .unset, .unset, .unset, .unset, .unset, .unset, .unset, .unset, .unset, .unset, .unset] [(.int v2)])) _
    refine XS.istore X0.here hx rfl (hb hby at_10) rfl (l' := #[.val (.int p0), .val (.int p1), .val (.int p2), .val (.int p3), .val (.long q4), .second, .val (.int v1), .val (.int v2), .unset, .unset, .unset, .unset, .unset, .unset, .unset, .unset, .unset, .unset, .unset, .unset, .unset, .unset, .unset, .unset]) rfl ?_
    exact kt
  refine Done.of ?_ K3
  refine own_cut5 (α := State) (β := List Loc) (γ := Vm) (δ := Addr) (ε := List Int32) (P := fun T' lc vm' a' cs => Stand p l e room_1 (s.setVm vm') m #[(.int p0), (.int p1), (.int p2), (.int p3), (.long q4)] below meth c T' lc 2 24 ∧ Keep h0 T'.heap [] ∧ Fr n0 lc ∧ (∃ k1, s.Since vm' k1 ∧ k1 ≤ T'.heap.size) ∧ Z.Warmed39 (s.setVm vm').vm ∧ (s.setVm vm').vm.findClass "com/example/ensyn/ensyn/region/NetClassNamedPinLaw" = some m.cls ∧ CHv Z [("com/example/ensyn/ensyn/region/NetClassNamedPinLaw", 7), ("com/example/ensyn/ensyn/region/NetClassNamedPinLaw", 9), ("com/example/ensyn/ensyn/region/NetClassNamedPinLaw", 11), ("com/example/ensyn/ensyn/region/NetClassNamedPinLaw", 13), ("java/lang/String", 7)] vm' T'.heap ∧ own_Str Z T'.heap a' cs ∧ ∀ c ∈ cs, ¬ c < 0 ∧ ¬ (255 : Int32) < c) (fun T' lc vm' a' cs => T'.setTop (mkF m 46 #[.val (.int p0), .val (.int p1), .val (.int p2), .val (.int p3), .val (.long q4), .second, .val (.int v1), .val (.int v2), .unset, .unset, .unset, .unset, .unset, .unset, .unset, .unset, .unset, .unset, .unset, .unset, .unset, .unset, .unset, .unset] [(.ref a')])) ?_ ?_
  · intro T4 lc4 vm4 a4 cs4 hP4
    obtain ⟨X4, Kc4, N4, ⟨k14, hS4, hk4⟩, hZ4, hown4, hC4, hT4, hb4⟩ := hP4
    have Z4 : n0 ≤ T4.heap.size := Nat.le_trans Z0 Kc4.1
    show Done p e below _ (T4.setTop (mkF m 46 #[.val (.int p0), .val (.int p1), .val (.int p2), .val (.int p3), .val (.long q4), .second, .val (.int v1), .val (.int v2), .unset, .unset, .unset, .unset, .unset, .unset, .unset, .unset, .unset, .unset, .unset, .unset, .unset, .unset, .unset, .unset] [(.ref a4)]))
    have J51_5 : ∀ wj : Int32, wj = (if v1 < (4 : Int32) then (if (((p0.toUInt32 >>> ((4 : Int32) &&& 31).toUInt32).toInt32) &&& (1 : Int32)) = (0 : Int32) then (1 : Int32) else (0 : Int32)) else (0 : Int32)) → ∀ target, Steps p.tables e below (T4.setTop (mkF m 67 #[.val (.int p0), .val (.int p1), .val (.int p2), .val (.int p3), .val (.long q4), .second, .val (.int v1), .val (.int v2), .val (.ref a4), .unset, .unset, .unset, .unset, .unset, .unset, .unset, .unset, .unset, .unset, .unset, .unset, .unset, .unset, .unset] [(.int wj)])) target → Steps p.tables e below (T4.setTop (mkF m 51 #[.val (.int p0), .val (.int p1), .val (.int p2), .val (.int p3), .val (.long q4), .second, .val (.int v1), .val (.int v2), .val (.ref a4), .unset, .unset, .unset, .unset, .unset, .unset, .unset, .unset, .unset, .unset, .unset, .unset, .unset, .unset, .unset] [(.int (4 : Int32)), (.int v1)])) target := by
      intro wj hw0 target kt
      by_cases hj51 : v1 < (4 : Int32)
      · rw [if_pos hj51] at hw0
        show Steps p.tables e below (T4.setTop (mkF m 51 #[.val (.int p0), .val (.int p1), .val (.int p2), .val (.int p3), .val (.long q4), .second, .val (.int v1), .val (.int v2), .val (.ref a4), .unset, .unset, .unset, .unset, .unset, .unset, .unset, .unset, .unset, .unset, .unset, .unset, .unset, .unset, .unset] [(.int (4 : Int32)), (.int v1)])) _
        refine XS.icmpNo X4.here hx rfl (hb hby at_51) rfl (tlt hj51).2.1 ?_
        show Steps p.tables e below (T4.setTop (mkF m 54 #[.val (.int p0), .val (.int p1), .val (.int p2), .val (.int p3), .val (.long q4), .second, .val (.int v1), .val (.int v2), .val (.ref a4), .unset, .unset, .unset, .unset, .unset, .unset, .unset, .unset, .unset, .unset, .unset, .unset, .unset, .unset, .unset] [])) _
        refine XS.iloadN X4.here hx rfl (hb hby at_54) rfl ?_
        show Steps p.tables e below (T4.setTop (mkF m 55 #[.val (.int p0), .val (.int p1), .val (.int p2), .val (.int p3), .val (.long q4), .second, .val (.int v1), .val (.int v2), .val (.ref a4), .unset, .unset, .unset, .unset, .unset, .unset, .unset, .unset, .unset, .unset, .unset, .unset, .unset, .unset, .unset] [(.int p0)])) _
        refine XS.iconst X4.here hx rfl (hb hby at_55) ?_
        refine XS.iushr X4.here hx rfl (hb hby at_56) rfl ?_
        refine XS.iconst X4.here hx rfl (hb hby at_57) ?_
        show Steps p.tables e below (T4.setTop (mkF m 58 #[.val (.int p0), .val (.int p1), .val (.int p2), .val (.int p3), .val (.long q4), .second, .val (.int v1), .val (.int v2), .val (.ref a4), .unset, .unset, .unset, .unset, .unset, .unset, .unset, .unset, .unset, .unset, .unset, .unset, .unset, .unset, .unset] [(.int (1 : Int32)), (.int ((p0.toUInt32 >>> ((4 : Int32) &&& 31).toUInt32).toInt32))])) _
        refine XS.iand X4.here hx rfl (hb hby at_58) rfl ?_
        by_cases hj59 : (((p0.toUInt32 >>> ((4 : Int32) &&& 31).toUInt32).toInt32) &&& (1 : Int32)) = (0 : Int32)
        · rw [if_pos hj59] at hw0
          show Steps p.tables e below (T4.setTop (mkF m 59 #[.val (.int p0), .val (.int p1), .val (.int p2), .val (.int p3), .val (.long q4), .second, .val (.int v1), .val (.int v2), .val (.ref a4), .unset, .unset, .unset, .unset, .unset, .unset, .unset, .unset, .unset, .unset, .unset, .unset, .unset, .unset, .unset] [(.int (((p0.toUInt32 >>> ((4 : Int32) &&& 31).toUInt32).toInt32) &&& (1 : Int32)))])) _
          refine XS.ifNo X4.here hx rfl (hb hby at_59) rfl ((if0 _ _).trans (teq hj59).2) ?_
          show Steps p.tables e below (T4.setTop (mkF m 62 #[.val (.int p0), .val (.int p1), .val (.int p2), .val (.int p3), .val (.long q4), .second, .val (.int v1), .val (.int v2), .val (.ref a4), .unset, .unset, .unset, .unset, .unset, .unset, .unset, .unset, .unset, .unset, .unset, .unset, .unset, .unset, .unset] [])) _
          refine XS.iconst X4.here hx rfl (hb hby at_62) ?_
          show Steps p.tables e below (T4.setTop (mkF m 63 #[.val (.int p0), .val (.int p1), .val (.int p2), .val (.int p3), .val (.long q4), .second, .val (.int v1), .val (.int v2), .val (.ref a4), .unset, .unset, .unset, .unset, .unset, .unset, .unset, .unset, .unset, .unset, .unset, .unset, .unset, .unset, .unset] [(.int (1 : Int32))])) _
          refine XS.goto X4.here hx rfl (pc0 := 63) (pc' := 67) rfl (hb hby at_63) (by decide) (by decide) ?_
          rw [hw0] at kt
          exact kt
        · rw [if_neg hj59] at hw0
          show Steps p.tables e below (T4.setTop (mkF m 59 #[.val (.int p0), .val (.int p1), .val (.int p2), .val (.int p3), .val (.long q4), .second, .val (.int v1), .val (.int v2), .val (.ref a4), .unset, .unset, .unset, .unset, .unset, .unset, .unset, .unset, .unset, .unset, .unset, .unset, .unset, .unset, .unset] [(.int (((p0.toUInt32 >>> ((4 : Int32) &&& 31).toUInt32).toInt32) &&& (1 : Int32)))])) _
          refine XS.ifYes X4.here hx rfl (pc0 := 59) (pc' := 66) rfl (hb hby at_59) rfl ((if0 _ _).trans (feq hj59).2) (by decide) (by decide) ?_
          show Steps p.tables e below (T4.setTop (mkF m 66 #[.val (.int p0), .val (.int p1), .val (.int p2), .val (.int p3), .val (.long q4), .second, .val (.int v1), .val (.int v2), .val (.ref a4), .unset, .unset, .unset, .unset, .unset, .unset, .unset, .unset, .unset, .unset, .unset, .unset, .unset, .unset, .unset] [])) _
          refine XS.iconst X4.here hx rfl (hb hby at_66) ?_
          rw [hw0] at kt
          exact kt
      · rw [if_neg hj51] at hw0
        show Steps p.tables e below (T4.setTop (mkF m 51 #[.val (.int p0), .val (.int p1), .val (.int p2), .val (.int p3), .val (.long q4), .second, .val (.int v1), .val (.int v2), .val (.ref a4), .unset, .unset, .unset, .unset, .unset, .unset, .unset, .unset, .unset, .unset, .unset, .unset, .unset, .unset, .unset] [(.int (4 : Int32)), (.int v1)])) _
        refine XS.icmpYes X4.here hx rfl (pc0 := 51) (pc' := 66) rfl (hb hby at_51) rfl (flt hj51).2.1 (by decide) (by decide) ?_
        show Steps p.tables e below (T4.setTop (mkF m 66 #[.val (.int p0), .val (.int p1), .val (.int p2), .val (.int p3), .val (.long q4), .second, .val (.int v1), .val (.int v2), .val (.ref a4), .unset, .unset, .unset, .unset, .unset, .unset, .unset, .unset, .unset, .unset, .unset, .unset, .unset, .unset, .unset] [])) _
        refine XS.iconst X4.here hx rfl (hb hby at_66) ?_
        rw [hw0] at kt
        exact kt
    obtain ⟨v6, ev6⟩ : ∃ z : Int32, z = (if v1 < (4 : Int32) then (if (((p0.toUInt32 >>> ((4 : Int32) &&& 31).toUInt32).toInt32) &&& (1 : Int32)) = (0 : Int32) then (1 : Int32) else (0 : Int32)) else (0 : Int32)) := ⟨_, rfl⟩
    have K7 : ∀ target, Steps p.tables e below (T4.setTop (mkF m 69 #[.val (.int p0), .val (.int p1), .val (.int p2), .val (.int p3), .val (.long q4), .second, .val (.int v1), .val (.int v2), .val (.ref a4), .val (.int v6), .unset, .unset, .unset, .unset, .unset, .unset, .unset, .unset, .unset, .unset, .unset, .unset, .unset, .unset] [])) target → Steps p.tables e below (T4.setTop (mkF m 46 #[.val (.int p0), .val (.int p1), .val (.int p2), .val (.int p3), .val (.long q4), .second, .val (.int v1), .val (.int v2), .unset, .unset, .unset, .unset, .unset, .unset, .unset, .unset, .unset, .unset, .unset, .unset, .unset, .unset, .unset, .unset] [(.ref a4)])) target := by
      intro target kt
      show Steps p.tables e below (T4.setTop (mkF m 46 #[.val (.int p0), .val (.int p1), .val (.int p2), .val (.int p3), .val (.long q4), .second, .val (.int v1), .val (.int v2), .unset, .unset, .unset, .unset, .unset, .unset, .unset, .unset, .unset, .unset, .unset, .unset, .unset, .unset, .unset, .unset] [(.ref a4)])) _
      refine XS.astore X4.here hx rfl (hb hby at_46) rfl rfl (l' := #[.val (.int p0), .val (.int p1), .val (.int p2), .val (.int p3), .val (.long q4), .second, .val (.int v1), .val (.int v2), .val (.ref a4), .unset, .unset, .unset, .unset, .unset, .unset, .unset, .unset, .unset, .unset, .unset, .unset, .unset, .unset, .unset]) rfl ?_
      show Steps p.tables e below (T4.setTop (mkF m 48 #[.val (.int p0), .val (.int p1), .val (.int p2), .val (.int p3), .val (.long q4), .second, .val (.int v1), .val (.int v2), .val (.ref a4), .unset, .unset, .unset, .unset, .unset, .unset, .unset, .unset, .unset, .unset, .unset, .unset, .unset, .unset, .unset] [])) _
      refine XS.iload X4.here hx rfl (hb hby at_48) rfl ?_
      show Steps p.tables e below (T4.setTop (mkF m 50 #[.val (.int p0), .val (.int p1), .val (.int p2), .val (.int p3), .val (.long q4), .second, .val (.int v1), .val (.int v2), .val (.ref a4), .unset, .unset, .unset, .unset, .unset, .unset, .unset, .unset, .unset, .unset, .unset, .unset, .unset, .unset, .unset] [(.int v1)])) _
      refine XS.iconst X4.here hx rfl (hb hby at_50) ?_
      show Steps p.tables e below (T4.setTop (mkF m 51 #[.val (.int p0), .val (.int p1), .val (.int p2), .val (.int p3), .val (.long q4), .second, .val (.int v1), .val (.int v2), .val (.ref a4), .unset, .unset, .unset, .unset, .unset, .unset, .unset, .unset, .unset, .unset, .unset, .unset, .unset, .unset, .unset] [(.int (4 : Int32)), (.int v1)])) _
      refine J51_5 _ rfl _ ?_
      show Steps p.tables e below (T4.setTop (mkF m 67 #[.val (.int p0), .val (.int p1), .val (.int p2), .val (.int p3), .val (.long q4), .second, .val (.int v1), .val (.int v2), .val (.ref a4), .unset, .unset, .unset, .unset, .unset, .unset, .unset, .unset, .unset, .unset, .unset, .unset, .unset, .unset, .unset] [(.int (if v1 < (4 : Int32) then (if (((p0.toUInt32 >>> ((4 : Int32) &&& 31).toUInt32).toInt32) &&& (1 : Int32)) = (0 : Int32) then (1 : Int32) else (0 : Int32)) else (0 : Int32)))])) _
      rw [← ev6]
      show Steps p.tables e below (T4.setTop (mkF m 67 #[.val (.int p0), .val (.int p1), .val (.int p2), .val (.int p3), .val (.long q4), .second, .val (.int v1), .val (.int v2), .val (.ref a4), .unset, .unset, .unset, .unset, .unset, .unset, .unset, .unset, .unset, .unset, .unset, .unset, .unset, .unset, .unset] [(.int v6)])) _
      refine XS.istore X4.here hx rfl (hb hby at_67) rfl (l' := #[.val (.int p0), .val (.int p1), .val (.int p2), .val (.int p3), .val (.long q4), .second, .val (.int v1), .val (.int v2), .val (.ref a4), .val (.int v6), .unset, .unset, .unset, .unset, .unset, .unset, .unset, .unset, .unset, .unset, .unset, .unset, .unset, .unset]) rfl ?_
      exact kt
    refine Done.of ?_ K7
    refine own_cut3 (α := State) (β := List Loc) (γ := Int32) (P := fun T' lc vv => Stand p l e room_1 (s.setVm vm4) m #[(.int p0), (.int p1), (.int p2), (.int p3), (.long q4)] below meth c T' lc 2 24 ∧ T'.heap = T4.heap ∧ Fr n0 lc ∧ vv = vv) (fun T' lc vv => T'.setTop (mkF m 89 #[.val (.int p0), .val (.int p1), .val (.int p2), .val (.int p3), .val (.long q4), .second, .val (.int v1), .val (.int v2), .val (.ref a4), .val (.int v6), .unset, .unset, .unset, .unset, .unset, .unset, .unset, .unset, .unset, .unset, .unset, .unset, .unset, .unset] [(.int vv)])) ?_ ?_
    · intro T8 lc8 nn8 hP8
      obtain ⟨X8, e8, N8, hv8⟩ := hP8
      show Done p e below _ (T8.setTop (mkF m 89 #[.val (.int p0), .val (.int p1), .val (.int p2), .val (.int p3), .val (.long q4), .second, .val (.int v1), .val (.int v2), .val (.ref a4), .val (.int v6), .unset, .unset, .unset, .unset, .unset, .unset, .unset, .unset, .unset, .unset, .unset, .unset, .unset, .unset] [(.int nn8)]))
      have J96_9 : ∀ wj : Int32, wj = (if (((p0.toUInt32 >>> ((3 : Int32) &&& 31).toUInt32).toInt32) &&& (1 : Int32)) = (0 : Int32) then (0 : Int32) else (1 : Int32)) → ∀ target, Steps p.tables e below (T8.setTop (mkF m 104 #[.val (.int p0), .val (.int p1), .val (.int p2), .val (.int p3), .val (.long q4), .second, .val (.int v1), .val (.int v2), .val (.ref a4), .val (.int v6), .val (.int nn8), .unset, .unset, .unset, .unset, .unset, .unset, .unset, .unset, .unset, .unset, .unset, .unset, .unset] [(.int wj)])) target → Steps p.tables e below (T8.setTop (mkF m 96 #[.val (.int p0), .val (.int p1), .val (.int p2), .val (.int p3), .val (.long q4), .second, .val (.int v1), .val (.int v2), .val (.ref a4), .val (.int v6), .val (.int nn8), .unset, .unset, .unset, .unset, .unset, .unset, .unset, .unset, .unset, .unset, .unset, .unset, .unset] [(.int (((p0.toUInt32 >>> ((3 : Int32) &&& 31).toUInt32).toInt32) &&& (1 : Int32)))])) target := by
        intro wj hw0 target kt
        by_cases hj96 : (((p0.toUInt32 >>> ((3 : Int32) &&& 31).toUInt32).toInt32) &&& (1 : Int32)) = (0 : Int32)
        · rw [if_pos hj96] at hw0
          show Steps p.tables e below (T8.setTop (mkF m 96 #[.val (.int p0), .val (.int p1), .val (.int p2), .val (.int p3), .val (.long q4), .second, .val (.int v1), .val (.int v2), .val (.ref a4), .val (.int v6), .val (.int nn8), .unset, .unset, .unset, .unset, .unset, .unset, .unset, .unset, .unset, .unset, .unset, .unset, .unset] [(.int (((p0.toUInt32 >>> ((3 : Int32) &&& 31).toUInt32).toInt32) &&& (1 : Int32)))])) _
          refine XS.ifYes X8.here hx rfl (pc0 := 96) (pc' := 103) rfl (hb hby at_96) rfl ((if0 _ _).trans (teq hj96).1) (by decide) (by decide) ?_
          show Steps p.tables e below (T8.setTop (mkF m 103 #[.val (.int p0), .val (.int p1), .val (.int p2), .val (.int p3), .val (.long q4), .second, .val (.int v1), .val (.int v2), .val (.ref a4), .val (.int v6), .val (.int nn8), .unset, .unset, .unset, .unset, .unset, .unset, .unset, .unset, .unset, .unset, .unset, .unset, .unset] [])) _
          refine XS.iconst X8.here hx rfl (hb hby at_103) ?_
          rw [hw0] at kt
          exact kt
        · rw [if_neg hj96] at hw0
          show Steps p.tables e below (T8.setTop (mkF m 96 #[.val (.int p0), .val (.int p1), .val (.int p2), .val (.int p3), .val (.long q4), .second, .val (.int v1), .val (.int v2), .val (.ref a4), .val (.int v6), .val (.int nn8), .unset, .unset, .unset, .unset, .unset, .unset, .unset, .unset, .unset, .unset, .unset, .unset, .unset] [(.int (((p0.toUInt32 >>> ((3 : Int32) &&& 31).toUInt32).toInt32) &&& (1 : Int32)))])) _
          refine XS.ifNo X8.here hx rfl (hb hby at_96) rfl ((if0 _ _).trans (feq hj96).1) ?_
          show Steps p.tables e below (T8.setTop (mkF m 99 #[.val (.int p0), .val (.int p1), .val (.int p2), .val (.int p3), .val (.long q4), .second, .val (.int v1), .val (.int v2), .val (.ref a4), .val (.int v6), .val (.int nn8), .unset, .unset, .unset, .unset, .unset, .unset, .unset, .unset, .unset, .unset, .unset, .unset, .unset] [])) _
          refine XS.iconst X8.here hx rfl (hb hby at_99) ?_
          show Steps p.tables e below (T8.setTop (mkF m 100 #[.val (.int p0), .val (.int p1), .val (.int p2), .val (.int p3), .val (.long q4), .second, .val (.int v1), .val (.int v2), .val (.ref a4), .val (.int v6), .val (.int nn8), .unset, .unset, .unset, .unset, .unset, .unset, .unset, .unset, .unset, .unset, .unset, .unset, .unset] [(.int (1 : Int32))])) _
          refine XS.goto X8.here hx rfl (pc0 := 100) (pc' := 104) rfl (hb hby at_100) (by decide) (by decide) ?_
          rw [hw0] at kt
          exact kt
      obtain ⟨v10, ev10⟩ : ∃ z : Int32, z = (if (((p0.toUInt32 >>> ((3 : Int32) &&& 31).toUInt32).toInt32) &&& (1 : Int32)) = (0 : Int32) then (0 : Int32) else (1 : Int32)) := ⟨_, rfl⟩
      have hnz112_11 : (6 : Int32) ≠ (0 : Int32) := by decide
      obtain ⟨v12, ev12⟩ : ∃ z : Int32, z = ((p2 &&& (2147483647 : Int32)) % (6 : Int32)) := ⟨_, rfl⟩
      obtain ⟨v13, ev13⟩ : ∃ z : Int32, z = ((p3 &&& (255 : Int32)).toUInt32.toUInt16.toUInt32.toInt32) := ⟨_, rfl⟩
      have K14 : ∀ target, Steps p.tables e below (T8.setTop (mkF m 123 #[.val (.int p0), .val (.int p1), .val (.int p2), .val (.int p3), .val (.long q4), .second, .val (.int v1), .val (.int v2), .val (.ref a4), .val (.int v6), .val (.int nn8), .val (.int v10), .val (.int v12), .val (.int v13), .unset, .unset, .unset, .unset, .unset, .unset, .unset, .unset, .unset, .unset] [])) target → Steps p.tables e below (T8.setTop (mkF m 89 #[.val (.int p0), .val (.int p1), .val (.int p2), .val (.int p3), .val (.long q4), .second, .val (.int v1), .val (.int v2), .val (.ref a4), .val (.int v6), .unset, .unset, .unset, .unset, .unset, .unset, .unset, .unset, .unset, .unset, .unset, .unset, .unset, .unset] [(.int nn8)])) target := by
        intro target kt
        show Steps p.tables e below (T8.setTop (mkF m 89 #[.val (.int p0), .val (.int p1), .val (.int p2), .val (.int p3), .val (.long q4), .second, .val (.int v1), .val (.int v2), .val (.ref a4), .val (.int v6), .unset, .unset, .unset, .unset, .unset, .unset, .unset, .unset, .unset, .unset, .unset, .unset, .unset, .unset] [(.int nn8)])) _
        refine XS.istore X8.here hx rfl (hb hby at_89) rfl (l' := #[.val (.int p0), .val (.int p1), .val (.int p2), .val (.int p3), .val (.long q4), .second, .val (.int v1), .val (.int v2), .val (.ref a4), .val (.int v6), .val (.int nn8), .unset, .unset, .unset, .unset, .unset, .unset, .unset, .unset, .unset, .unset, .unset, .unset, .unset]) rfl ?_
        show Steps p.tables e below (T8.setTop (mkF m 91 #[.val (.int p0), .val (.int p1), .val (.int p2), .val (.int p3), .val (.long q4), .second, .val (.int v1), .val (.int v2), .val (.ref a4), .val (.int v6), .val (.int nn8), .unset, .unset, .unset, .unset, .unset, .unset, .unset, .unset, .unset, .unset, .unset, .unset, .unset] [])) _
        refine XS.iloadN X8.here hx rfl (hb hby at_91) rfl ?_
        show Steps p.tables e below (T8.setTop (mkF m 92 #[.val (.int p0), .val (.int p1), .val (.int p2), .val (.int p3), .val (.long q4), .second, .val (.int v1), .val (.int v2), .val (.ref a4), .val (.int v6), .val (.int nn8), .unset, .unset, .unset, .unset, .unset, .unset, .unset, .unset, .unset, .unset, .unset, .unset, .unset] [(.int p0)])) _
        refine XS.iconst X8.here hx rfl (hb hby at_92) ?_
        show Steps p.tables e below (T8.setTop (mkF m 93 #[.val (.int p0), .val (.int p1), .val (.int p2), .val (.int p3), .val (.long q4), .second, .val (.int v1), .val (.int v2), .val (.ref a4), .val (.int v6), .val (.int nn8), .unset, .unset, .unset, .unset, .unset, .unset, .unset, .unset, .unset, .unset, .unset, .unset, .unset] [(.int (3 : Int32)), (.int p0)])) _
        refine XS.iushr X8.here hx rfl (hb hby at_93) rfl ?_
        refine XS.iconst X8.here hx rfl (hb hby at_94) ?_
        refine XS.iand X8.here hx rfl (hb hby at_95) rfl ?_
        show Steps p.tables e below (T8.setTop (mkF m 96 #[.val (.int p0), .val (.int p1), .val (.int p2), .val (.int p3), .val (.long q4), .second, .val (.int v1), .val (.int v2), .val (.ref a4), .val (.int v6), .val (.int nn8), .unset, .unset, .unset, .unset, .unset, .unset, .unset, .unset, .unset, .unset, .unset, .unset, .unset] [(.int (((p0.toUInt32 >>> ((3 : Int32) &&& 31).toUInt32).toInt32) &&& (1 : Int32)))])) _
        refine J96_9 _ rfl _ ?_
        show Steps p.tables e below (T8.setTop (mkF m 104 #[.val (.int p0), .val (.int p1), .val (.int p2), .val (.int p3), .val (.long q4), .second, .val (.int v1), .val (.int v2), .val (.ref a4), .val (.int v6), .val (.int nn8), .unset, .unset, .unset, .unset, .unset, .unset, .unset, .unset, .unset, .unset, .unset, .unset, .unset] [(.int (if (((p0.toUInt32 >>> ((3 : Int32) &&& 31).toUInt32).toInt32) &&& (1 : Int32)) = (0 : Int32) then (0 : Int32) else (1 : Int32)))])) _
        rw [← ev10]
        show Steps p.tables e below (T8.setTop (mkF m 104 #[.val (.int p0), .val (.int p1), .val (.int p2), .val (.int p3), .val (.long q4), .second, .val (.int v1), .val (.int v2), .val (.ref a4), .val (.int v6), .val (.int nn8), .unset, .unset, .unset, .unset, .unset, .unset, .unset, .unset, .unset, .unset, .unset, .unset, .unset] [(.int v10)])) _
        refine XS.istore X8.here hx rfl (hb hby at_104) rfl (l' := #[.val (.int p0), .val (.int p1), .val (.int p2), .val (.int p3), .val (.long q4), .second, .val (.int v1), .val (.int v2), .val (.ref a4), .val (.int v6), .val (.int nn8), .val (.int v10), .unset, .unset, .unset, .unset, .unset, .unset, .unset, .unset, .unset, .unset, .unset, .unset]) rfl ?_
        refine XS.iloadN X8.here hx rfl (hb hby at_106) rfl ?_
        refine X8.ldcInt hx hown4 (mvT hZ4 (hw _ (List.mem_of_getElem? (i := 21) rfl))) (g := (mkF m 107 #[.val (.int p0), .val (.int p1), .val (.int p2), .val (.int p3), .val (.long q4), .second, .val (.int v1), .val (.int v2), .val (.ref a4), .val (.int v6), .val (.int nn8), .val (.int v10), .unset, .unset, .unset, .unset, .unset, .unset, .unset, .unset, .unset, .unset, .unset, .unset] [(.int p2)])) rfl (hb hby at_107) _ ?_
        show Steps p.tables e below (T8.setTop (mkF m 109 #[.val (.int p0), .val (.int p1), .val (.int p2), .val (.int p3), .val (.long q4), .second, .val (.int v1), .val (.int v2), .val (.ref a4), .val (.int v6), .val (.int nn8), .val (.int v10), .unset, .unset, .unset, .unset, .unset, .unset, .unset, .unset, .unset, .unset, .unset, .unset] [(.int (2147483647 : Int32)), (.int p2)])) _
        refine XS.iand X8.here hx rfl (hb hby at_109) rfl ?_
        refine XS.bipush X8.here hx rfl (hb hby at_110) ?_
        refine Jvm.RoadKit.iremM X8 hx rfl (hb hby at_112) rfl hnz112_11 ?_
        show Steps p.tables e below (T8.setTop (mkF m 113 #[.val (.int p0), .val (.int p1), .val (.int p2), .val (.int p3), .val (.long q4), .second, .val (.int v1), .val (.int v2), .val (.ref a4), .val (.int v6), .val (.int nn8), .val (.int v10), .unset, .unset, .unset, .unset, .unset, .unset, .unset, .unset, .unset, .unset, .unset, .unset] [(.int ((p2 &&& (2147483647 : Int32)) % (6 : Int32)))])) _
        rw [← ev12]
        show Steps p.tables e below (T8.setTop (mkF m 113 #[.val (.int p0), .val (.int p1), .val (.int p2), .val (.int p3), .val (.long q4), .second, .val (.int v1), .val (.int v2), .val (.ref a4), .val (.int v6), .val (.int nn8), .val (.int v10), .unset, .unset, .unset, .unset, .unset, .unset, .unset, .unset, .unset, .unset, .unset, .unset] [(.int v12)])) _
        refine XS.istore X8.here hx rfl (hb hby at_113) rfl (l' := #[.val (.int p0), .val (.int p1), .val (.int p2), .val (.int p3), .val (.long q4), .second, .val (.int v1), .val (.int v2), .val (.ref a4), .val (.int v6), .val (.int nn8), .val (.int v10), .val (.int v12), .unset, .unset, .unset, .unset, .unset, .unset, .unset, .unset, .unset, .unset, .unset]) rfl ?_
        show Steps p.tables e below (T8.setTop (mkF m 115 #[.val (.int p0), .val (.int p1), .val (.int p2), .val (.int p3), .val (.long q4), .second, .val (.int v1), .val (.int v2), .val (.ref a4), .val (.int v6), .val (.int nn8), .val (.int v10), .val (.int v12), .unset, .unset, .unset, .unset, .unset, .unset, .unset, .unset, .unset, .unset, .unset] [])) _
        refine XS.iloadN X8.here hx rfl (hb hby at_115) rfl ?_
        refine XS.sipush X8.here hx rfl (hb hby at_116) ?_
        refine XS.iand X8.here hx rfl (hb hby at_119) rfl ?_
        refine XS.i2c X8.here hx rfl (hb hby at_120) rfl ?_
        show Steps p.tables e below (T8.setTop (mkF m 121 #[.val (.int p0), .val (.int p1), .val (.int p2), .val (.int p3), .val (.long q4), .second, .val (.int v1), .val (.int v2), .val (.ref a4), .val (.int v6), .val (.int nn8), .val (.int v10), .val (.int v12), .unset, .unset, .unset, .unset, .unset, .unset, .unset, .unset, .unset, .unset, .unset] [(.int ((p3 &&& (255 : Int32)).toUInt32.toUInt16.toUInt32.toInt32))])) _
        rw [← ev13]
        show Steps p.tables e below (T8.setTop (mkF m 121 #[.val (.int p0), .val (.int p1), .val (.int p2), .val (.int p3), .val (.long q4), .second, .val (.int v1), .val (.int v2), .val (.ref a4), .val (.int v6), .val (.int nn8), .val (.int v10), .val (.int v12), .unset, .unset, .unset, .unset, .unset, .unset, .unset, .unset, .unset, .unset, .unset] [(.int v13)])) _
        refine XS.istore X8.here hx rfl (hb hby at_121) rfl (l' := #[.val (.int p0), .val (.int p1), .val (.int p2), .val (.int p3), .val (.long q4), .second, .val (.int v1), .val (.int v2), .val (.ref a4), .val (.int v6), .val (.int nn8), .val (.int v10), .val (.int v12), .val (.int v13), .unset, .unset, .unset, .unset, .unset, .unset, .unset, .unset, .unset, .unset]) rfl ?_
        exact kt
      refine Done.of ?_ K14
      refine own_cut3 (α := State) (β := List Loc) (γ := Int32) (P := fun T' lc vv => Stand p l e room_1 (s.setVm vm4) m #[(.int p0), (.int p1), (.int p2), (.int p3), (.long q4)] below meth c T' lc 2 24 ∧ T'.heap = T4.heap ∧ Fr n0 lc ∧ (¬ vv < 0 ∧ ¬ (255 : Int32) < vv)) (fun T' lc vv => T'.setTop (mkF m 148 #[.val (.int p0), .val (.int p1), .val (.int p2), .val (.int p3), .val (.long q4), .second, .val (.int v1), .val (.int v2), .val (.ref a4), .val (.int v6), .val (.int nn8), .val (.int v10), .val (.int v12), .val (.int v13), .unset, .unset, .unset, .unset, .unset, .unset, .unset, .unset, .unset, .unset] [(.int vv)])) ?_ ?_
      · intro T15 lc15 ch15 hP15
        obtain ⟨X15, e15, N15, hv15⟩ := hP15
        show Done p e below _ (T15.setTop (mkF m 148 #[.val (.int p0), .val (.int p1), .val (.int p2), .val (.int p3), .val (.long q4), .second, .val (.int v1), .val (.int v2), .val (.ref a4), .val (.int v6), .val (.int nn8), .val (.int v10), .val (.int v12), .val (.int v13), .unset, .unset, .unset, .unset, .unset, .unset, .unset, .unset, .unset, .unset] [(.int ch15)]))
        have K16 : ∀ target, Steps p.tables e below (T15.setTop (mkF m 150 #[.val (.int p0), .val (.int p1), .val (.int p2), .val (.int p3), .val (.long q4), .second, .val (.int v1), .val (.int v2), .val (.ref a4), .val (.int v6), .val (.int nn8), .val (.int v10), .val (.int v12), .val (.int v13), .val (.int ch15), .unset, .unset, .unset, .unset, .unset, .unset, .unset, .unset, .unset] [])) target → Steps p.tables e below (T15.setTop (mkF m 148 #[.val (.int p0), .val (.int p1), .val (.int p2), .val (.int p3), .val (.long q4), .second, .val (.int v1), .val (.int v2), .val (.ref a4), .val (.int v6), .val (.int nn8), .val (.int v10), .val (.int v12), .val (.int v13), .unset, .unset, .unset, .unset, .unset, .unset, .unset, .unset, .unset, .unset] [(.int ch15)])) target := by
          intro target kt
          refine XS.istore X15.here hx rfl (hb hby at_148) rfl (l' := #[.val (.int p0), .val (.int p1), .val (.int p2), .val (.int p3), .val (.long q4), .second, .val (.int v1), .val (.int v2), .val (.ref a4), .val (.int v6), .val (.int nn8), .val (.int v10), .val (.int v12), .val (.int v13), .val (.int ch15), .unset, .unset, .unset, .unset, .unset, .unset, .unset, .unset, .unset]) rfl ?_
          exact kt
        refine Done.of ?_ K16
        refine own_cut3 (α := State) (β := List Loc) (γ := Int32) (P := fun T' lc vv => Stand p l e room_1 (s.setVm vm4) m #[(.int p0), (.int p1), (.int p2), (.int p3), (.long q4)] below meth c T' lc 2 24 ∧ T'.heap = T4.heap ∧ Fr n0 lc ∧ (¬ vv < 0 ∧ ¬ (255 : Int32) < vv)) (fun T' lc vv => T'.setTop (mkF m 176 #[.val (.int p0), .val (.int p1), .val (.int p2), .val (.int p3), .val (.long q4), .second, .val (.int v1), .val (.int v2), .val (.ref a4), .val (.int v6), .val (.int nn8), .val (.int v10), .val (.int v12), .val (.int v13), .val (.int ch15), .unset, .unset, .unset, .unset, .unset, .unset, .unset, .unset, .unset] [(.int vv)])) ?_ ?_
        · intro T17 lc17 ch17 hP17
          obtain ⟨X17, e17, N17, hv17⟩ := hP17
          show Done p e below _ (T17.setTop (mkF m 176 #[.val (.int p0), .val (.int p1), .val (.int p2), .val (.int p3), .val (.long q4), .second, .val (.int v1), .val (.int v2), .val (.ref a4), .val (.int v6), .val (.int nn8), .val (.int v10), .val (.int v12), .val (.int v13), .val (.int ch15), .unset, .unset, .unset, .unset, .unset, .unset, .unset, .unset, .unset] [(.int ch17)]))
          have K18 : ∀ target, Steps p.tables e below (T17.setTop (mkF m 178 #[.val (.int p0), .val (.int p1), .val (.int p2), .val (.int p3), .val (.long q4), .second, .val (.int v1), .val (.int v2), .val (.ref a4), .val (.int v6), .val (.int nn8), .val (.int v10), .val (.int v12), .val (.int v13), .val (.int ch15), .val (.int ch17), .unset, .unset, .unset, .unset, .unset, .unset, .unset, .unset] [])) target → Steps p.tables e below (T17.setTop (mkF m 176 #[.val (.int p0), .val (.int p1), .val (.int p2), .val (.int p3), .val (.long q4), .second, .val (.int v1), .val (.int v2), .val (.ref a4), .val (.int v6), .val (.int nn8), .val (.int v10), .val (.int v12), .val (.int v13), .val (.int ch15), .unset, .unset, .unset, .unset, .unset, .unset, .unset, .unset, .unset] [(.int ch17)])) target := by
            intro target kt
            refine XS.istore X17.here hx rfl (hb hby at_176) rfl (l' := #[.val (.int p0), .val (.int p1), .val (.int p2), .val (.int p3), .val (.long q4), .second, .val (.int v1), .val (.int v2), .val (.ref a4), .val (.int v6), .val (.int nn8), .val (.int v10), .val (.int v12), .val (.int v13), .val (.int ch15), .val (.int ch17), .unset, .unset, .unset, .unset, .unset, .unset, .unset, .unset]) rfl ?_
            exact kt
          refine Done.of ?_ K18
          refine own_cut3 (α := State) (β := List Loc) (γ := Int32) (P := fun T' lc vv => Stand p l e room_1 (s.setVm vm4) m #[(.int p0), (.int p1), (.int p2), (.int p3), (.long q4)] below meth c T' lc 2 24 ∧ T'.heap = T4.heap ∧ Fr n0 lc ∧ (¬ vv < 0 ∧ ¬ (255 : Int32) < vv)) (fun T' lc vv => T'.setTop (mkF m 204 #[.val (.int p0), .val (.int p1), .val (.int p2), .val (.int p3), .val (.long q4), .second, .val (.int v1), .val (.int v2), .val (.ref a4), .val (.int v6), .val (.int nn8), .val (.int v10), .val (.int v12), .val (.int v13), .val (.int ch15), .val (.int ch17), .unset, .unset, .unset, .unset, .unset, .unset, .unset, .unset] [(.int vv)])) ?_ ?_
          · intro T19 lc19 ch19 hP19
            obtain ⟨X19, e19, N19, hv19⟩ := hP19
            show Done p e below _ (T19.setTop (mkF m 204 #[.val (.int p0), .val (.int p1), .val (.int p2), .val (.int p3), .val (.long q4), .second, .val (.int v1), .val (.int v2), .val (.ref a4), .val (.int v6), .val (.int nn8), .val (.int v10), .val (.int v12), .val (.int v13), .val (.int ch15), .val (.int ch17), .unset, .unset, .unset, .unset, .unset, .unset, .unset, .unset] [(.int ch19)]))
            have K20 : ∀ target, Steps p.tables e below (T19.setTop (mkF m 206 #[.val (.int p0), .val (.int p1), .val (.int p2), .val (.int p3), .val (.long q4), .second, .val (.int v1), .val (.int v2), .val (.ref a4), .val (.int v6), .val (.int nn8), .val (.int v10), .val (.int v12), .val (.int v13), .val (.int ch15), .val (.int ch17), .val (.int ch19), .unset, .unset, .unset, .unset, .unset, .unset, .unset] [])) target → Steps p.tables e below (T19.setTop (mkF m 204 #[.val (.int p0), .val (.int p1), .val (.int p2), .val (.int p3), .val (.long q4), .second, .val (.int v1), .val (.int v2), .val (.ref a4), .val (.int v6), .val (.int nn8), .val (.int v10), .val (.int v12), .val (.int v13), .val (.int ch15), .val (.int ch17), .unset, .unset, .unset, .unset, .unset, .unset, .unset, .unset] [(.int ch19)])) target := by
              intro target kt
              refine XS.istore X19.here hx rfl (hb hby at_204) rfl (l' := #[.val (.int p0), .val (.int p1), .val (.int p2), .val (.int p3), .val (.long q4), .second, .val (.int v1), .val (.int v2), .val (.ref a4), .val (.int v6), .val (.int nn8), .val (.int v10), .val (.int v12), .val (.int v13), .val (.int ch15), .val (.int ch17), .val (.int ch19), .unset, .unset, .unset, .unset, .unset, .unset, .unset]) rfl ?_
              exact kt
            refine Done.of ?_ K20
            refine own_cut3 (α := State) (β := List Loc) (γ := Int32) (P := fun T' lc vv => Stand p l e room_1 (s.setVm vm4) m #[(.int p0), (.int p1), (.int p2), (.int p3), (.long q4)] below meth c T' lc 2 24 ∧ T'.heap = T4.heap ∧ Fr n0 lc ∧ (¬ vv < 0 ∧ ¬ (255 : Int32) < vv)) (fun T' lc vv => T'.setTop (mkF m 232 #[.val (.int p0), .val (.int p1), .val (.int p2), .val (.int p3), .val (.long q4), .second, .val (.int v1), .val (.int v2), .val (.ref a4), .val (.int v6), .val (.int nn8), .val (.int v10), .val (.int v12), .val (.int v13), .val (.int ch15), .val (.int ch17), .val (.int ch19), .unset, .unset, .unset, .unset, .unset, .unset, .unset] [(.int vv)])) ?_ ?_
            · intro T21 lc21 ch21 hP21
              obtain ⟨X21, e21, N21, hv21⟩ := hP21
              show Done p e below _ (T21.setTop (mkF m 232 #[.val (.int p0), .val (.int p1), .val (.int p2), .val (.int p3), .val (.long q4), .second, .val (.int v1), .val (.int v2), .val (.ref a4), .val (.int v6), .val (.int nn8), .val (.int v10), .val (.int v12), .val (.int v13), .val (.int ch15), .val (.int ch17), .val (.int ch19), .unset, .unset, .unset, .unset, .unset, .unset, .unset] [(.int ch21)]))
              have K22 : ∀ target, Steps p.tables e below (T21.setTop (mkF m 234 #[.val (.int p0), .val (.int p1), .val (.int p2), .val (.int p3), .val (.long q4), .second, .val (.int v1), .val (.int v2), .val (.ref a4), .val (.int v6), .val (.int nn8), .val (.int v10), .val (.int v12), .val (.int v13), .val (.int ch15), .val (.int ch17), .val (.int ch19), .val (.int ch21), .unset, .unset, .unset, .unset, .unset, .unset] [])) target → Steps p.tables e below (T21.setTop (mkF m 232 #[.val (.int p0), .val (.int p1), .val (.int p2), .val (.int p3), .val (.long q4), .second, .val (.int v1), .val (.int v2), .val (.ref a4), .val (.int v6), .val (.int nn8), .val (.int v10), .val (.int v12), .val (.int v13), .val (.int ch15), .val (.int ch17), .val (.int ch19), .unset, .unset, .unset, .unset, .unset, .unset, .unset] [(.int ch21)])) target := by
                intro target kt
                show Steps p.tables e below (T21.setTop (mkF m 232 #[.val (.int p0), .val (.int p1), .val (.int p2), .val (.int p3), .val (.long q4), .second, .val (.int v1), .val (.int v2), .val (.ref a4), .val (.int v6), .val (.int nn8), .val (.int v10), .val (.int v12), .val (.int v13), .val (.int ch15), .val (.int ch17), .val (.int ch19), .unset, .unset, .unset, .unset, .unset, .unset, .unset] [(.int ch21)])) _
                refine XS.istore X21.here hx rfl (hb hby at_232) rfl (l' := #[.val (.int p0), .val (.int p1), .val (.int p2), .val (.int p3), .val (.long q4), .second, .val (.int v1), .val (.int v2), .val (.ref a4), .val (.int v6), .val (.int nn8), .val (.int v10), .val (.int v12), .val (.int v13), .val (.int ch15), .val (.int ch17), .val (.int ch19), .val (.int ch21), .unset, .unset, .unset, .unset, .unset, .unset]) rfl ?_
                exact kt
              refine Done.of ?_ K22
              refine own_cut3 (α := State) (β := List Loc) (γ := Int32) (P := fun T' lc vv => Stand p l e room_1 (s.setVm vm4) m #[(.int p0), (.int p1), (.int p2), (.int p3), (.long q4)] below meth c T' lc 2 24 ∧ T'.heap = T4.heap ∧ Fr n0 lc ∧ (¬ vv < 0 ∧ ¬ (255 : Int32) < vv)) (fun T' lc vv => T'.setTop (mkF m 260 #[.val (.int p0), .val (.int p1), .val (.int p2), .val (.int p3), .val (.long q4), .second, .val (.int v1), .val (.int v2), .val (.ref a4), .val (.int v6), .val (.int nn8), .val (.int v10), .val (.int v12), .val (.int v13), .val (.int ch15), .val (.int ch17), .val (.int ch19), .val (.int ch21), .unset, .unset, .unset, .unset, .unset, .unset] [(.int vv)])) ?_ ?_
              · intro T23 lc23 ch23 hP23
                obtain ⟨X23, e23, N23, hv23⟩ := hP23
                show Done p e below _ (T23.setTop (mkF m 260 #[.val (.int p0), .val (.int p1), .val (.int p2), .val (.int p3), .val (.long q4), .second, .val (.int v1), .val (.int v2), .val (.ref a4), .val (.int v6), .val (.int nn8), .val (.int v10), .val (.int v12), .val (.int v13), .val (.int ch15), .val (.int ch17), .val (.int ch19), .val (.int ch21), .unset, .unset, .unset, .unset, .unset, .unset] [(.int ch23)]))
                have K24 : ∀ target, Steps p.tables e below (T23.setTop (mkF m 262 #[.val (.int p0), .val (.int p1), .val (.int p2), .val (.int p3), .val (.long q4), .second, .val (.int v1), .val (.int v2), .val (.ref a4), .val (.int v6), .val (.int nn8), .val (.int v10), .val (.int v12), .val (.int v13), .val (.int ch15), .val (.int ch17), .val (.int ch19), .val (.int ch21), .val (.int ch23), .unset, .unset, .unset, .unset, .unset] [])) target → Steps p.tables e below (T23.setTop (mkF m 260 #[.val (.int p0), .val (.int p1), .val (.int p2), .val (.int p3), .val (.long q4), .second, .val (.int v1), .val (.int v2), .val (.ref a4), .val (.int v6), .val (.int nn8), .val (.int v10), .val (.int v12), .val (.int v13), .val (.int ch15), .val (.int ch17), .val (.int ch19), .val (.int ch21), .unset, .unset, .unset, .unset, .unset, .unset] [(.int ch23)])) target := by
                  intro target kt
                  refine XS.istore X23.here hx rfl (hb hby at_260) rfl (l' := #[.val (.int p0), .val (.int p1), .val (.int p2), .val (.int p3), .val (.long q4), .second, .val (.int v1), .val (.int v2), .val (.ref a4), .val (.int v6), .val (.int nn8), .val (.int v10), .val (.int v12), .val (.int v13), .val (.int ch15), .val (.int ch17), .val (.int ch19), .val (.int ch21), .val (.int ch23), .unset, .unset, .unset, .unset, .unset]) rfl ?_
                  exact kt
                refine Done.of ?_ K24
                refine own_cut3 (α := State) (β := List Loc) (γ := Int32) (P := fun T' lc vv => Stand p l e room_1 (s.setVm vm4) m #[(.int p0), (.int p1), (.int p2), (.int p3), (.long q4)] below meth c T' lc 2 24 ∧ T'.heap = T4.heap ∧ Fr n0 lc ∧ (¬ vv < 0 ∧ ¬ (255 : Int32) < vv)) (fun T' lc vv => T'.setTop (mkF m 288 #[.val (.int p0), .val (.int p1), .val (.int p2), .val (.int p3), .val (.long q4), .second, .val (.int v1), .val (.int v2), .val (.ref a4), .val (.int v6), .val (.int nn8), .val (.int v10), .val (.int v12), .val (.int v13), .val (.int ch15), .val (.int ch17), .val (.int ch19), .val (.int ch21), .val (.int ch23), .unset, .unset, .unset, .unset, .unset] [(.int vv)])) ?_ ?_
                · intro T25 lc25 ch25 hP25
                  obtain ⟨X25, e25, N25, hv25⟩ := hP25
                  show Done p e below _ (T25.setTop (mkF m 288 #[.val (.int p0), .val (.int p1), .val (.int p2), .val (.int p3), .val (.long q4), .second, .val (.int v1), .val (.int v2), .val (.ref a4), .val (.int v6), .val (.int nn8), .val (.int v10), .val (.int v12), .val (.int v13), .val (.int ch15), .val (.int ch17), .val (.int ch19), .val (.int ch21), .val (.int ch23), .unset, .unset, .unset, .unset, .unset] [(.int ch25)]))
                  have K26 : ∀ target, Steps p.tables e below (T25.setTop (mkF m 290 #[.val (.int p0), .val (.int p1), .val (.int p2), .val (.int p3), .val (.long q4), .second, .val (.int v1), .val (.int v2), .val (.ref a4), .val (.int v6), .val (.int nn8), .val (.int v10), .val (.int v12), .val (.int v13), .val (.int ch15), .val (.int ch17), .val (.int ch19), .val (.int ch21), .val (.int ch23), .val (.int ch25), .unset, .unset, .unset, .unset] [])) target → Steps p.tables e below (T25.setTop (mkF m 288 #[.val (.int p0), .val (.int p1), .val (.int p2), .val (.int p3), .val (.long q4), .second, .val (.int v1), .val (.int v2), .val (.ref a4), .val (.int v6), .val (.int nn8), .val (.int v10), .val (.int v12), .val (.int v13), .val (.int ch15), .val (.int ch17), .val (.int ch19), .val (.int ch21), .val (.int ch23), .unset, .unset, .unset, .unset, .unset] [(.int ch25)])) target := by
                    intro target kt
                    refine XS.istore X25.here hx rfl (hb hby at_288) rfl (l' := #[.val (.int p0), .val (.int p1), .val (.int p2), .val (.int p3), .val (.long q4), .second, .val (.int v1), .val (.int v2), .val (.ref a4), .val (.int v6), .val (.int nn8), .val (.int v10), .val (.int v12), .val (.int v13), .val (.int ch15), .val (.int ch17), .val (.int ch19), .val (.int ch21), .val (.int ch23), .val (.int ch25), .unset, .unset, .unset, .unset]) rfl ?_
                    exact kt
                  refine Done.of ?_ K26
                  refine own_cut5 (α := State) (β := List Loc) (γ := Vm) (δ := Addr) (ε := List Int32) (P := fun T' lc vm' a' cs => Stand p l e room_1 (s.setVm vm') m #[(.int p0), (.int p1), (.int p2), (.int p3), (.long q4)] below meth c T' lc 6 40 ∧ Keep h0 T'.heap [] ∧ Fr n0 lc ∧ (∃ k1, s.Since vm' k1 ∧ k1 ≤ T'.heap.size) ∧ Z.Warmed39 (s.setVm vm').vm ∧ (s.setVm vm').vm.findClass "com/example/ensyn/ensyn/region/NetClassNamedPinLaw" = some m.cls ∧ CHv Z [("com/example/ensyn/ensyn/region/NetClassNamedPinLaw", 7), ("com/example/ensyn/ensyn/region/NetClassNamedPinLaw", 9), ("com/example/ensyn/ensyn/region/NetClassNamedPinLaw", 11), ("com/example/ensyn/ensyn/region/NetClassNamedPinLaw", 13), ("java/lang/String", 7)] vm' T'.heap ∧ own_Str Z T'.heap a' cs ∧ ∀ c ∈ cs, ¬ c < 0 ∧ ¬ (255 : Int32) < c) (fun T' lc vm' a' cs => T'.setTop (mkF m 307 #[.val (.int p0), .val (.int p1), .val (.int p2), .val (.int p3), .val (.long q4), .second, .val (.int v1), .val (.int v2), .val (.ref a4), .val (.int v6), .val (.int nn8), .val (.int v10), .val (.int v12), .val (.int v13), .val (.int ch15), .val (.int ch17), .val (.int ch19), .val (.int ch21), .val (.int ch23), .val (.int ch25), .unset, .unset, .unset, .unset] [(.ref a')])) ?_ ?_
                  · intro T27 lc27 vm27 a27 cs27 hP27
                    obtain ⟨X27, Kc27, N27, ⟨k127, hS27, hk27⟩, hZ27, hown27, hC27, hT27, hb27⟩ := hP27
                    have Z27 : n0 ≤ T27.heap.size := Nat.le_trans Z0 Kc27.1
                    show Done p e below _ (T27.setTop (mkF m 307 #[.val (.int p0), .val (.int p1), .val (.int p2), .val (.int p3), .val (.long q4), .second, .val (.int v1), .val (.int v2), .val (.ref a4), .val (.int v6), .val (.int nn8), .val (.int v10), .val (.int v12), .val (.int v13), .val (.int ch15), .val (.int ch17), .val (.int ch19), .val (.int ch21), .val (.int ch23), .val (.int ch25), .unset, .unset, .unset, .unset] [(.ref a27)]))
                    obtain ⟨a28, T28, h28, k128, bb28, kb28, X28, e28, E28, hS28, hk28, hZ28, hown28, LE28, LC28, LV28, LA28, -, -, CR28, Lit28, LN28, st28⟩ := ldcCH X27 hx hZ27 hown27 (hw _ (List.mem_of_getElem? (i := 0) rfl)) wS rfl hS27 hk27 hEW (List.mem_of_getElem? (i := 0) rfl) hC27 (vs := [(.int (112 : Int32)), (.int (108 : Int32)), (.int (97 : Int32)), (.int (105 : Int32)), (.int (110 : Int32))]) (z := (5 : Int32)) ⟨by decide +kernel, by first | rfl | decide +kernel⟩ (by decide) (by decide) (g := (mkF m 314 #[.val (.int p0), .val (.int p1), .val (.int p2), .val (.int p3), .val (.long q4), .second, .val (.int v1), .val (.int v2), .val (.ref a4), .val (.int v6), .val (.int nn8), .val (.int v10), .val (.int v12), .val (.int v13), .val (.int ch15), .val (.int ch17), .val (.int ch19), .val (.int ch21), .val (.int ch23), .val (.int ch25), .val (.ref a27), .val (.int (-1 : Int32)), .unset, .unset] [(.ref a27)])) rfl (hb hby at_314) (n := 20) (by decide +kernel) (by decide) (by decide) (by decide)
                    have Z28 : n0 ≤ h28.size := Nat.le_trans Z27 E28.1
                    have Kp28 := Kc27.ext E28
                    have TS28 : own_Str Z h28 a28 own_c0 := ⟨bb28, kb28, _, _, LE28, LV28, LC28, LA28, Or.inl ⟨rfl, rfl, rfl, by decide⟩, by decide, by decide⟩
                    have cy29 := (OZ.keep Kc27 all0)
                    have cy30 := (cy29.ext E28)
                    obtain ⟨cq31, kq31, q31a, q31b, q31c⟩ := isOf hZ28 e28 (own_Str.exa (hT27.ext E28))
                    obtain ⟨_, _, ⟨T31, L31, k31, n31⟩, -, X31, ⟨Lc31, hQ31, l31, y31, z31⟩, st31⟩ := X28.virtualBack hx (y := (⟨"java/lang/String", "equals", "(Ljava/lang/Object;)Z"⟩ : MethodName)) (z := (⟨"java/lang/String", "equals", "(Ljava/lang/Object;)Z"⟩ : MethodName)) hown28 (mvT hZ28 (hw _ (List.mem_of_getElem? (i := 74) rfl))) (mvT hZ28 (hw _ (List.mem_of_getElem? (i := 75) rfl))) (notFace_of_selects (args := #[]) (mvT hZ28 (hw _ (List.mem_of_getElem? (i := 77) rfl)))) (mvT hZ28 (hw _ (List.mem_of_getElem? (i := 77) rfl))) (mvT hZ28 (hw _ (List.mem_of_getElem? (i := 76) rfl))) (by decide) (own_eqB (W := 0) hZ28 hweq (hw _ (List.mem_of_getElem? (i := 2) rfl)) (hT27.ext E28) TS28 (S_COMPACT_STRINGS.ext cy30.2) hcs (by decide) (by decide)) q31a q31c (g := (mkF m 316 #[.val (.int p0), .val (.int p1), .val (.int p2), .val (.int p3), .val (.long q4), .second, .val (.int v1), .val (.int v2), .val (.ref a4), .val (.int v6), .val (.int nn8), .val (.int v10), .val (.int v12), .val (.int v13), .val (.int ch15), .val (.int ch17), .val (.int ch19), .val (.int ch21), .val (.int ch23), .val (.int ch25), .val (.ref a27), .val (.int (-1 : Int32)), .unset, .unset] [(.ref a28), (.ref a27)])) rfl (by rw [hml]; rfl) (Steps.refl _) (argsL := [(.ref a28)]) (rest := []) (lenOf pd_8 rfl) rfl (by show 2 * 0 + _ ≤ _; exact Nat.le_of_eq rfl) (hb hby at_316) (fun _ _ => ⟨rfl, e28, (by decide : 8 + 0 ≤ _), (by decide : 64 + 0 ≤ _)⟩)
                    dsimp only [Pt.U, Pt.locs, Pt.cells, Pt.slots] at X31 l31 y31 z31 st31 hQ31
                    rw [l31, y31, z31] at X31
                    obtain ⟨rfl, rfl, e31⟩ := hQ31
                    have N31 := Fr.app N27 (Fr.nil n0)
                    have K32 : ∀ target, Steps p.tables e below (T31.setTop (mkF m 319 #[.val (.int p0), .val (.int p1), .val (.int p2), .val (.int p3), .val (.long q4), .second, .val (.int v1), .val (.int v2), .val (.ref a4), .val (.int v6), .val (.int nn8), .val (.int v10), .val (.int v12), .val (.int v13), .val (.int ch15), .val (.int ch17), .val (.int ch19), .val (.int ch21), .val (.int ch23), .val (.int ch25), .val (.ref a27), .val (.int (-1 : Int32)), .unset, .unset] [(.int (if cs27 = own_c0 then (1 : Int32) else (0 : Int32)))])) target → Steps p.tables e below (T27.setTop (mkF m 307 #[.val (.int p0), .val (.int p1), .val (.int p2), .val (.int p3), .val (.long q4), .second, .val (.int v1), .val (.int v2), .val (.ref a4), .val (.int v6), .val (.int nn8), .val (.int v10), .val (.int v12), .val (.int v13), .val (.int ch15), .val (.int ch17), .val (.int ch19), .val (.int ch21), .val (.int ch23), .val (.int ch25), .unset, .unset, .unset, .unset] [(.ref a27)])) target := by
                      intro target kt
                      refine XS.astore X27.here hx rfl (hb hby at_307) rfl rfl (l' := #[.val (.int p0), .val (.int p1), .val (.int p2), .val (.int p3), .val (.long q4), .second, .val (.int v1), .val (.int v2), .val (.ref a4), .val (.int v6), .val (.int nn8), .val (.int v10), .val (.int v12), .val (.int v13), .val (.int ch15), .val (.int ch17), .val (.int ch19), .val (.int ch21), .val (.int ch23), .val (.int ch25), .val (.ref a27), .unset, .unset, .unset]) rfl ?_
                      show Steps p.tables e below (T27.setTop (mkF m 309 #[.val (.int p0), .val (.int p1), .val (.int p2), .val (.int p3), .val (.long q4), .second, .val (.int v1), .val (.int v2), .val (.ref a4), .val (.int v6), .val (.int nn8), .val (.int v10), .val (.int v12), .val (.int v13), .val (.int ch15), .val (.int ch17), .val (.int ch19), .val (.int ch21), .val (.int ch23), .val (.int ch25), .val (.ref a27), .unset, .unset, .unset] [])) _
                      refine XS.iconst X27.here hx rfl (hb hby at_309) ?_
                      refine XS.istore X27.here hx rfl (hb hby at_310) rfl (l' := #[.val (.int p0), .val (.int p1), .val (.int p2), .val (.int p3), .val (.long q4), .second, .val (.int v1), .val (.int v2), .val (.ref a4), .val (.int v6), .val (.int nn8), .val (.int v10), .val (.int v12), .val (.int v13), .val (.int ch15), .val (.int ch17), .val (.int ch19), .val (.int ch21), .val (.int ch23), .val (.int ch25), .val (.ref a27), .val (.int (-1 : Int32)), .unset, .unset]) rfl ?_
                      refine XS.aload X27.here hx rfl (hb hby at_312) rfl rfl ?_
                      show Steps p.tables e below (T27.setTop (mkF m 314 #[.val (.int p0), .val (.int p1), .val (.int p2), .val (.int p3), .val (.long q4), .second, .val (.int v1), .val (.int v2), .val (.ref a4), .val (.int v6), .val (.int nn8), .val (.int v10), .val (.int v12), .val (.int v13), .val (.int ch15), .val (.int ch17), .val (.int ch19), .val (.int ch21), .val (.int ch23), .val (.int ch25), .val (.ref a27), .val (.int (-1 : Int32)), .unset, .unset] [(.ref a27)])) _
                      refine st28 _ ?_
                      refine st31.trans ?_
                      exact kt
                    refine Done.of ?_ K32
                    by_cases hc319_33 : (if cs27 = own_c0 then (1 : Int32) else (0 : Int32)) = (0 : Int32)
                    · have K : ∀ target, Steps p.tables e below (T31.setTop (mkF m 328 #[.val (.int p0), .val (.int p1), .val (.int p2), .val (.int p3), .val (.long q4), .second, .val (.int v1), .val (.int v2), .val (.ref a4), .val (.int v6), .val (.int nn8), .val (.int v10), .val (.int v12), .val (.int v13), .val (.int ch15), .val (.int ch17), .val (.int ch19), .val (.int ch21), .val (.int ch23), .val (.int ch25), .val (.ref a27), .val (.int (-1 : Int32)), .unset, .unset] [])) target → Steps p.tables e below (T31.setTop (mkF m 319 #[.val (.int p0), .val (.int p1), .val (.int p2), .val (.int p3), .val (.long q4), .second, .val (.int v1), .val (.int v2), .val (.ref a4), .val (.int v6), .val (.int nn8), .val (.int v10), .val (.int v12), .val (.int v13), .val (.int ch15), .val (.int ch17), .val (.int ch19), .val (.int ch21), .val (.int ch23), .val (.int ch25), .val (.ref a27), .val (.int (-1 : Int32)), .unset, .unset] [(.int (if cs27 = own_c0 then (1 : Int32) else (0 : Int32)))])) target := by
                        intro target kt
                        refine XS.ifYes X31.here hx rfl (pc0 := 319) (pc' := 328) rfl (hb hby at_319) rfl ((if0 _ _).trans (teq hc319_33).1) (by decide) (by decide) ?_
                        exact kt
                      refine Done.of ?_ K
                      obtain ⟨a34, T34, h34, k134, bb34, kb34, X34, e34, E34, hS34, hk34, hZ34, hown34, LE34, LC34, LV34, LA34, -, -, CR34, Lit34, LN34, st34⟩ := ldcCH X31 hx hZ28 hown28 (hw _ (List.mem_of_getElem? (i := 142) rfl)) wS e31 hS28 hk28 hEW (List.mem_of_getElem? (i := 1) rfl) CR28.1 (vs := [(.int (112 : Int32)), (.int (117 : Int32)), (.int (114 : Int32)), (.int (101 : Int32))]) (z := (4 : Int32)) ⟨by decide +kernel, by first | rfl | decide +kernel⟩ (by decide) (by decide) (g := (mkF m 330 #[.val (.int p0), .val (.int p1), .val (.int p2), .val (.int p3), .val (.long q4), .second, .val (.int v1), .val (.int v2), .val (.ref a4), .val (.int v6), .val (.int nn8), .val (.int v10), .val (.int v12), .val (.int v13), .val (.int ch15), .val (.int ch17), .val (.int ch19), .val (.int ch21), .val (.int ch23), .val (.int ch25), .val (.ref a27), .val (.int (-1 : Int32)), .unset, .unset] [(.ref a27)])) rfl (hb hby at_330) (n := 20) (by decide +kernel) (by decide) (by decide) (by decide)
                      have Z34 : n0 ≤ h34.size := Nat.le_trans Z28 E34.1
                      have Kp34 := Kp28.ext E34
                      have TS34 : own_Str Z h34 a34 own_c1 := ⟨bb34, kb34, _, _, LE34, LV34, LC34, LA34, Or.inl ⟨rfl, rfl, rfl, by decide⟩, by decide, by decide⟩
                      have cy35 := (hT27.ext E28)
                      have cy36 := (cy35.ext E34)
                      obtain ⟨cq37, kq37, q37a, q37b, q37c⟩ := isOf hZ34 e34 (own_Str.exa cy36)
                      obtain ⟨_, _, ⟨T37, L37, k37, n37⟩, -, X37, ⟨Lc37, hQ37, l37, y37, z37⟩, st37⟩ := X34.virtualBack hx (y := (⟨"java/lang/String", "equals", "(Ljava/lang/Object;)Z"⟩ : MethodName)) (z := (⟨"java/lang/String", "equals", "(Ljava/lang/Object;)Z"⟩ : MethodName)) hown34 (mvT hZ34 (hw _ (List.mem_of_getElem? (i := 74) rfl))) (mvT hZ34 (hw _ (List.mem_of_getElem? (i := 75) rfl))) (notFace_of_selects (args := #[]) (mvT hZ34 (hw _ (List.mem_of_getElem? (i := 77) rfl)))) (mvT hZ34 (hw _ (List.mem_of_getElem? (i := 77) rfl))) (mvT hZ34 (hw _ (List.mem_of_getElem? (i := 76) rfl))) (by decide) (own_eqB (W := 0) hZ34 hweq (hw _ (List.mem_of_getElem? (i := 2) rfl)) cy36 TS34 (S_COMPACT_STRINGS.ext (cy30.ext E34).2) hcs (by decide) (by decide)) q37a q37c (g := (mkF m 332 #[.val (.int p0), .val (.int p1), .val (.int p2), .val (.int p3), .val (.long q4), .second, .val (.int v1), .val (.int v2), .val (.ref a4), .val (.int v6), .val (.int nn8), .val (.int v10), .val (.int v12), .val (.int v13), .val (.int ch15), .val (.int ch17), .val (.int ch19), .val (.int ch21), .val (.int ch23), .val (.int ch25), .val (.ref a27), .val (.int (-1 : Int32)), .unset, .unset] [(.ref a34), (.ref a27)])) rfl (by rw [hml]; rfl) (Steps.refl _) (argsL := [(.ref a34)]) (rest := []) (lenOf pd_8 rfl) rfl (by show 2 * 0 + _ ≤ _; exact Nat.le_of_eq rfl) (hb hby at_332) (fun _ _ => ⟨rfl, e34, (by decide : 10 + 0 ≤ _), (by decide : 88 + 0 ≤ _)⟩)
                      dsimp only [Pt.U, Pt.locs, Pt.cells, Pt.slots] at X37 l37 y37 z37 st37 hQ37
                      rw [l37, y37, z37] at X37
                      obtain ⟨rfl, rfl, e37⟩ := hQ37
                      have N37 := Fr.app N31 (Fr.nil n0)
                      have K38 : ∀ target, Steps p.tables e below (T37.setTop (mkF m 335 #[.val (.int p0), .val (.int p1), .val (.int p2), .val (.int p3), .val (.long q4), .second, .val (.int v1), .val (.int v2), .val (.ref a4), .val (.int v6), .val (.int nn8), .val (.int v10), .val (.int v12), .val (.int v13), .val (.int ch15), .val (.int ch17), .val (.int ch19), .val (.int ch21), .val (.int ch23), .val (.int ch25), .val (.ref a27), .val (.int (-1 : Int32)), .unset, .unset] [(.int (if cs27 = own_c1 then (1 : Int32) else (0 : Int32)))])) target → Steps p.tables e below (T31.setTop (mkF m 328 #[.val (.int p0), .val (.int p1), .val (.int p2), .val (.int p3), .val (.long q4), .second, .val (.int v1), .val (.int v2), .val (.ref a4), .val (.int v6), .val (.int nn8), .val (.int v10), .val (.int v12), .val (.int v13), .val (.int ch15), .val (.int ch17), .val (.int ch19), .val (.int ch21), .val (.int ch23), .val (.int ch25), .val (.ref a27), .val (.int (-1 : Int32)), .unset, .unset] [])) target := by
                        intro target kt
                        show Steps p.tables e below (T31.setTop (mkF m 328 #[.val (.int p0), .val (.int p1), .val (.int p2), .val (.int p3), .val (.long q4), .second, .val (.int v1), .val (.int v2), .val (.ref a4), .val (.int v6), .val (.int nn8), .val (.int v10), .val (.int v12), .val (.int v13), .val (.int ch15), .val (.int ch17), .val (.int ch19), .val (.int ch21), .val (.int ch23), .val (.int ch25), .val (.ref a27), .val (.int (-1 : Int32)), .unset, .unset] [])) _
                        refine XS.aload X31.here hx rfl (hb hby at_328) rfl rfl ?_
                        show Steps p.tables e below (T31.setTop (mkF m 330 #[.val (.int p0), .val (.int p1), .val (.int p2), .val (.int p3), .val (.long q4), .second, .val (.int v1), .val (.int v2), .val (.ref a4), .val (.int v6), .val (.int nn8), .val (.int v10), .val (.int v12), .val (.int v13), .val (.int ch15), .val (.int ch17), .val (.int ch19), .val (.int ch21), .val (.int ch23), .val (.int ch25), .val (.ref a27), .val (.int (-1 : Int32)), .unset, .unset] [(.ref a27)])) _
                        refine st34 _ ?_
                        refine st37.trans ?_
                        exact kt
                      refine Done.of ?_ K38
                      by_cases hc335_39 : (if cs27 = own_c1 then (1 : Int32) else (0 : Int32)) = (0 : Int32)
                      · have K : ∀ target, Steps p.tables e below (T37.setTop (mkF m 344 #[.val (.int p0), .val (.int p1), .val (.int p2), .val (.int p3), .val (.long q4), .second, .val (.int v1), .val (.int v2), .val (.ref a4), .val (.int v6), .val (.int nn8), .val (.int v10), .val (.int v12), .val (.int v13), .val (.int ch15), .val (.int ch17), .val (.int ch19), .val (.int ch21), .val (.int ch23), .val (.int ch25), .val (.ref a27), .val (.int (-1 : Int32)), .unset, .unset] [])) target → Steps p.tables e below (T37.setTop (mkF m 335 #[.val (.int p0), .val (.int p1), .val (.int p2), .val (.int p3), .val (.long q4), .second, .val (.int v1), .val (.int v2), .val (.ref a4), .val (.int v6), .val (.int nn8), .val (.int v10), .val (.int v12), .val (.int v13), .val (.int ch15), .val (.int ch17), .val (.int ch19), .val (.int ch21), .val (.int ch23), .val (.int ch25), .val (.ref a27), .val (.int (-1 : Int32)), .unset, .unset] [(.int (if cs27 = own_c1 then (1 : Int32) else (0 : Int32)))])) target := by
                          intro target kt
                          refine XS.ifYes X37.here hx rfl (pc0 := 335) (pc' := 344) rfl (hb hby at_335) rfl ((if0 _ _).trans (teq hc335_39).1) (by decide) (by decide) ?_
                          exact kt
                        refine Done.of ?_ K
                        obtain ⟨a40, T40, h40, k140, bb40, kb40, X40, e40, E40, hS40, hk40, hZ40, hown40, LE40, LC40, LV40, LA40, -, -, CR40, Lit40, LN40, st40⟩ := ldcCH X37 hx hZ34 hown34 (hw _ (List.mem_of_getElem? (i := 141) rfl)) wS e37 hS34 hk34 hEW (List.mem_of_getElem? (i := 2) rfl) CR34.1 (vs := [(.int (119 : Int32)), (.int (109 : Int32)), (.int (103 : Int32))]) (z := (3 : Int32)) ⟨by decide +kernel, by first | rfl | decide +kernel⟩ (by decide) (by decide) (g := (mkF m 346 #[.val (.int p0), .val (.int p1), .val (.int p2), .val (.int p3), .val (.long q4), .second, .val (.int v1), .val (.int v2), .val (.ref a4), .val (.int v6), .val (.int nn8), .val (.int v10), .val (.int v12), .val (.int v13), .val (.int ch15), .val (.int ch17), .val (.int ch19), .val (.int ch21), .val (.int ch23), .val (.int ch25), .val (.ref a27), .val (.int (-1 : Int32)), .unset, .unset] [(.ref a27)])) rfl (hb hby at_346) (n := 20) (by decide +kernel) (by decide) (by decide) (by decide)
                        have Z40 : n0 ≤ h40.size := Nat.le_trans Z34 E40.1
                        have Kp40 := Kp34.ext E40
                        have TS40 : own_Str Z h40 a40 own_c2 := ⟨bb40, kb40, _, _, LE40, LV40, LC40, LA40, Or.inl ⟨rfl, rfl, rfl, by decide⟩, by decide, by decide⟩
                        have cy41 := (cy30.ext E34)
                        have cy42 := (cy41.ext E40)
                        obtain ⟨cq43, kq43, q43a, q43b, q43c⟩ := isOf hZ40 e40 (own_Str.exa (cy36.ext E40))
                        obtain ⟨_, _, ⟨T43, L43, k43, n43⟩, -, X43, ⟨Lc43, hQ43, l43, y43, z43⟩, st43⟩ := X40.virtualBack hx (y := (⟨"java/lang/String", "equals", "(Ljava/lang/Object;)Z"⟩ : MethodName)) (z := (⟨"java/lang/String", "equals", "(Ljava/lang/Object;)Z"⟩ : MethodName)) hown40 (mvT hZ40 (hw _ (List.mem_of_getElem? (i := 74) rfl))) (mvT hZ40 (hw _ (List.mem_of_getElem? (i := 75) rfl))) (notFace_of_selects (args := #[]) (mvT hZ40 (hw _ (List.mem_of_getElem? (i := 77) rfl)))) (mvT hZ40 (hw _ (List.mem_of_getElem? (i := 77) rfl))) (mvT hZ40 (hw _ (List.mem_of_getElem? (i := 76) rfl))) (by decide) (own_eqB (W := 0) hZ40 hweq (hw _ (List.mem_of_getElem? (i := 2) rfl)) (cy36.ext E40) TS40 (S_COMPACT_STRINGS.ext cy42.2) hcs (by decide) (by decide)) q43a q43c (g := (mkF m 348 #[.val (.int p0), .val (.int p1), .val (.int p2), .val (.int p3), .val (.long q4), .second, .val (.int v1), .val (.int v2), .val (.ref a4), .val (.int v6), .val (.int nn8), .val (.int v10), .val (.int v12), .val (.int v13), .val (.int ch15), .val (.int ch17), .val (.int ch19), .val (.int ch21), .val (.int ch23), .val (.int ch25), .val (.ref a27), .val (.int (-1 : Int32)), .unset, .unset] [(.ref a40), (.ref a27)])) rfl (by rw [hml]; rfl) (Steps.refl _) (argsL := [(.ref a40)]) (rest := []) (lenOf pd_8 rfl) rfl (by show 2 * 0 + _ ≤ _; exact Nat.le_of_eq rfl) (hb hby at_348) (fun _ _ => ⟨rfl, e40, (by decide : 12 + 0 ≤ _), (by decide : 112 + 0 ≤ _)⟩)
                        dsimp only [Pt.U, Pt.locs, Pt.cells, Pt.slots] at X43 l43 y43 z43 st43 hQ43
                        rw [l43, y43, z43] at X43
                        obtain ⟨rfl, rfl, e43⟩ := hQ43
                        have N43 := Fr.app N37 (Fr.nil n0)
                        have K44 : ∀ target, Steps p.tables e below (T43.setTop (mkF m 351 #[.val (.int p0), .val (.int p1), .val (.int p2), .val (.int p3), .val (.long q4), .second, .val (.int v1), .val (.int v2), .val (.ref a4), .val (.int v6), .val (.int nn8), .val (.int v10), .val (.int v12), .val (.int v13), .val (.int ch15), .val (.int ch17), .val (.int ch19), .val (.int ch21), .val (.int ch23), .val (.int ch25), .val (.ref a27), .val (.int (-1 : Int32)), .unset, .unset] [(.int (if cs27 = own_c2 then (1 : Int32) else (0 : Int32)))])) target → Steps p.tables e below (T37.setTop (mkF m 344 #[.val (.int p0), .val (.int p1), .val (.int p2), .val (.int p3), .val (.long q4), .second, .val (.int v1), .val (.int v2), .val (.ref a4), .val (.int v6), .val (.int nn8), .val (.int v10), .val (.int v12), .val (.int v13), .val (.int ch15), .val (.int ch17), .val (.int ch19), .val (.int ch21), .val (.int ch23), .val (.int ch25), .val (.ref a27), .val (.int (-1 : Int32)), .unset, .unset] [])) target := by
                          intro target kt
                          refine XS.aload X37.here hx rfl (hb hby at_344) rfl rfl ?_
                          show Steps p.tables e below (T37.setTop (mkF m 346 #[.val (.int p0), .val (.int p1), .val (.int p2), .val (.int p3), .val (.long q4), .second, .val (.int v1), .val (.int v2), .val (.ref a4), .val (.int v6), .val (.int nn8), .val (.int v10), .val (.int v12), .val (.int v13), .val (.int ch15), .val (.int ch17), .val (.int ch19), .val (.int ch21), .val (.int ch23), .val (.int ch25), .val (.ref a27), .val (.int (-1 : Int32)), .unset, .unset] [(.ref a27)])) _
                          refine st40 _ ?_
                          refine st43.trans ?_
                          exact kt
                        refine Done.of ?_ K44
                        by_cases hc351_45 : (if cs27 = own_c2 then (1 : Int32) else (0 : Int32)) = (0 : Int32)
                        · have K : ∀ target, Steps p.tables e below (T43.setTop (mkF m 360 #[.val (.int p0), .val (.int p1), .val (.int p2), .val (.int p3), .val (.long q4), .second, .val (.int v1), .val (.int v2), .val (.ref a4), .val (.int v6), .val (.int nn8), .val (.int v10), .val (.int v12), .val (.int v13), .val (.int ch15), .val (.int ch17), .val (.int ch19), .val (.int ch21), .val (.int ch23), .val (.int ch25), .val (.ref a27), .val (.int (-1 : Int32)), .unset, .unset] [])) target → Steps p.tables e below (T43.setTop (mkF m 351 #[.val (.int p0), .val (.int p1), .val (.int p2), .val (.int p3), .val (.long q4), .second, .val (.int v1), .val (.int v2), .val (.ref a4), .val (.int v6), .val (.int nn8), .val (.int v10), .val (.int v12), .val (.int v13), .val (.int ch15), .val (.int ch17), .val (.int ch19), .val (.int ch21), .val (.int ch23), .val (.int ch25), .val (.ref a27), .val (.int (-1 : Int32)), .unset, .unset] [(.int (if cs27 = own_c2 then (1 : Int32) else (0 : Int32)))])) target := by
                            intro target kt
                            refine XS.ifYes X43.here hx rfl (pc0 := 351) (pc' := 360) rfl (hb hby at_351) rfl ((if0 _ _).trans (teq hc351_45).1) (by decide) (by decide) ?_
                            exact kt
                          refine Done.of ?_ K
                          obtain ⟨a46, T46, h46, k146, bb46, kb46, X46, e46, E46, hS46, hk46, hZ46, hown46, LE46, LC46, LV46, LA46, -, -, CR46, Lit46, LN46, st46⟩ := ldcCH X43 hx hZ40 hown40 (hw _ (List.mem_of_getElem? (i := 143) rfl)) wS e43 hS40 hk40 hEW (List.mem_of_getElem? (i := 3) rfl) CR40.1 (vs := [(.int (99 : Int32)), (.int (102 : Int32))]) (z := (2 : Int32)) ⟨by decide +kernel, by first | rfl | decide +kernel⟩ (by decide) (by decide) (g := (mkF m 362 #[.val (.int p0), .val (.int p1), .val (.int p2), .val (.int p3), .val (.long q4), .second, .val (.int v1), .val (.int v2), .val (.ref a4), .val (.int v6), .val (.int nn8), .val (.int v10), .val (.int v12), .val (.int v13), .val (.int ch15), .val (.int ch17), .val (.int ch19), .val (.int ch21), .val (.int ch23), .val (.int ch25), .val (.ref a27), .val (.int (-1 : Int32)), .unset, .unset] [(.ref a27)])) rfl (hb hby at_362) (n := 20) (by decide +kernel) (by decide) (by decide) (by decide)
                          have Z46 : n0 ≤ h46.size := Nat.le_trans Z40 E46.1
                          have Kp46 := Kp40.ext E46
                          have TS46 : own_Str Z h46 a46 own_c3 := ⟨bb46, kb46, _, _, LE46, LV46, LC46, LA46, Or.inl ⟨rfl, rfl, rfl, by decide⟩, by decide, by decide⟩
                          have cy47 := (cy36.ext E40)
                          have cy48 := (cy47.ext E46)
                          obtain ⟨cq49, kq49, q49a, q49b, q49c⟩ := isOf hZ46 e46 (own_Str.exa cy48)
                          obtain ⟨_, _, ⟨T49, L49, k49, n49⟩, -, X49, ⟨Lc49, hQ49, l49, y49, z49⟩, st49⟩ := X46.virtualBack hx (y := (⟨"java/lang/String", "equals", "(Ljava/lang/Object;)Z"⟩ : MethodName)) (z := (⟨"java/lang/String", "equals", "(Ljava/lang/Object;)Z"⟩ : MethodName)) hown46 (mvT hZ46 (hw _ (List.mem_of_getElem? (i := 74) rfl))) (mvT hZ46 (hw _ (List.mem_of_getElem? (i := 75) rfl))) (notFace_of_selects (args := #[]) (mvT hZ46 (hw _ (List.mem_of_getElem? (i := 77) rfl)))) (mvT hZ46 (hw _ (List.mem_of_getElem? (i := 77) rfl))) (mvT hZ46 (hw _ (List.mem_of_getElem? (i := 76) rfl))) (by decide) (own_eqB (W := 0) hZ46 hweq (hw _ (List.mem_of_getElem? (i := 2) rfl)) cy48 TS46 (S_COMPACT_STRINGS.ext (cy42.ext E46).2) hcs (by decide) (by decide)) q49a q49c (g := (mkF m 364 #[.val (.int p0), .val (.int p1), .val (.int p2), .val (.int p3), .val (.long q4), .second, .val (.int v1), .val (.int v2), .val (.ref a4), .val (.int v6), .val (.int nn8), .val (.int v10), .val (.int v12), .val (.int v13), .val (.int ch15), .val (.int ch17), .val (.int ch19), .val (.int ch21), .val (.int ch23), .val (.int ch25), .val (.ref a27), .val (.int (-1 : Int32)), .unset, .unset] [(.ref a46), (.ref a27)])) rfl (by rw [hml]; rfl) (Steps.refl _) (argsL := [(.ref a46)]) (rest := []) (lenOf pd_8 rfl) rfl (by show 2 * 0 + _ ≤ _; exact Nat.le_of_eq rfl) (hb hby at_364) (fun _ _ => ⟨rfl, e46, (by decide : 14 + 0 ≤ _), (by decide : 136 + 0 ≤ _)⟩)
                          dsimp only [Pt.U, Pt.locs, Pt.cells, Pt.slots] at X49 l49 y49 z49 st49 hQ49
                          rw [l49, y49, z49] at X49
                          obtain ⟨rfl, rfl, e49⟩ := hQ49
                          have N49 := Fr.app N43 (Fr.nil n0)
                          have K50 : ∀ target, Steps p.tables e below (T49.setTop (mkF m 367 #[.val (.int p0), .val (.int p1), .val (.int p2), .val (.int p3), .val (.long q4), .second, .val (.int v1), .val (.int v2), .val (.ref a4), .val (.int v6), .val (.int nn8), .val (.int v10), .val (.int v12), .val (.int v13), .val (.int ch15), .val (.int ch17), .val (.int ch19), .val (.int ch21), .val (.int ch23), .val (.int ch25), .val (.ref a27), .val (.int (-1 : Int32)), .unset, .unset] [(.int (if cs27 = own_c3 then (1 : Int32) else (0 : Int32)))])) target → Steps p.tables e below (T43.setTop (mkF m 360 #[.val (.int p0), .val (.int p1), .val (.int p2), .val (.int p3), .val (.long q4), .second, .val (.int v1), .val (.int v2), .val (.ref a4), .val (.int v6), .val (.int nn8), .val (.int v10), .val (.int v12), .val (.int v13), .val (.int ch15), .val (.int ch17), .val (.int ch19), .val (.int ch21), .val (.int ch23), .val (.int ch25), .val (.ref a27), .val (.int (-1 : Int32)), .unset, .unset] [])) target := by
                            intro target kt
                            show Steps p.tables e below (T43.setTop (mkF m 360 #[.val (.int p0), .val (.int p1), .val (.int p2), .val (.int p3), .val (.long q4), .second, .val (.int v1), .val (.int v2), .val (.ref a4), .val (.int v6), .val (.int nn8), .val (.int v10), .val (.int v12), .val (.int v13), .val (.int ch15), .val (.int ch17), .val (.int ch19), .val (.int ch21), .val (.int ch23), .val (.int ch25), .val (.ref a27), .val (.int (-1 : Int32)), .unset, .unset] [])) _
                            refine XS.aload X43.here hx rfl (hb hby at_360) rfl rfl ?_
                            show Steps p.tables e below (T43.setTop (mkF m 362 #[.val (.int p0), .val (.int p1), .val (.int p2), .val (.int p3), .val (.long q4), .second, .val (.int v1), .val (.int v2), .val (.ref a4), .val (.int v6), .val (.int nn8), .val (.int v10), .val (.int v12), .val (.int v13), .val (.int ch15), .val (.int ch17), .val (.int ch19), .val (.int ch21), .val (.int ch23), .val (.int ch25), .val (.ref a27), .val (.int (-1 : Int32)), .unset, .unset] [(.ref a27)])) _
                            refine st46 _ ?_
                            refine st49.trans ?_
                            exact kt
                          refine Done.of ?_ K50
                          by_cases hc367_51 : (if cs27 = own_c3 then (1 : Int32) else (0 : Int32)) = (0 : Int32)
                          · have K : ∀ target, Steps p.tables e below (T49.setTop (mkF m 373 #[.val (.int p0), .val (.int p1), .val (.int p2), .val (.int p3), .val (.long q4), .second, .val (.int v1), .val (.int v2), .val (.ref a4), .val (.int v6), .val (.int nn8), .val (.int v10), .val (.int v12), .val (.int v13), .val (.int ch15), .val (.int ch17), .val (.int ch19), .val (.int ch21), .val (.int ch23), .val (.int ch25), .val (.ref a27), .val (.int (-1 : Int32)), .unset, .unset] [])) target → Steps p.tables e below (T49.setTop (mkF m 367 #[.val (.int p0), .val (.int p1), .val (.int p2), .val (.int p3), .val (.long q4), .second, .val (.int v1), .val (.int v2), .val (.ref a4), .val (.int v6), .val (.int nn8), .val (.int v10), .val (.int v12), .val (.int v13), .val (.int ch15), .val (.int ch17), .val (.int ch19), .val (.int ch21), .val (.int ch23), .val (.int ch25), .val (.ref a27), .val (.int (-1 : Int32)), .unset, .unset] [(.int (if cs27 = own_c3 then (1 : Int32) else (0 : Int32)))])) target := by
                              intro target kt
                              refine XS.ifYes X49.here hx rfl (pc0 := 367) (pc' := 373) rfl (hb hby at_367) rfl ((if0 _ _).trans (teq hc367_51).1) (by decide) (by decide) ?_
                              exact kt
                            refine Done.of ?_ K
                            have cy52 := (HW.keep0 Kc27)
                            have cy53 := (cy52.ext E28)
                            have cy54 := (cy53.ext E34)
                            have cy55 := (cy54.ext E40)
                            have cy56 := (cy55.ext E46)
                            obtain ⟨_, _, ⟨T57, L57, k57, n57⟩, -, X57, ⟨Lc57, hQ57, l57, y57, z57⟩, st57⟩ := Jvm.LawKit.callS X49 hx (y := (⟨"com/example/ensyn/ensyn/region/NetClass", "named", "(Ljava/lang/String;)Ljava/util/Optional;"⟩ : MethodName)) hown46 (mvT hZ46 (hw _ (List.mem_of_getElem? (i := 83) rfl))) (mvT hZ46 (hw _ (List.mem_of_getElem? (i := 84) rfl))) (mvT hZ46 (hw _ (List.mem_of_getElem? (i := 85) rfl))) (mvT hZ46 (hw _ (List.mem_of_getElem? (i := 86) rfl))) (by decide) (backOf (W := 0) (rm18 l Z a0 hw [] a27 A NM va em kv dv cs27 cz h46 n0 Z46 cy56 (S_VALUES.ext (cy42.ext E46).2) (S_EMPTY.ext (cy42.ext E46).2) (S_COMPACT_STRINGS.ext (cy42.ext E46).2) hcs cy48) hZ46 (hw _ (List.mem_of_getElem? (i := 86) rfl)) (hw _ (List.mem_of_getElem? (i := 85) rfl)) (by decide) (by decide)) (g := (mkF m 375 #[.val (.int p0), .val (.int p1), .val (.int p2), .val (.int p3), .val (.long q4), .second, .val (.int v1), .val (.int v2), .val (.ref a4), .val (.int v6), .val (.int nn8), .val (.int v10), .val (.int v12), .val (.int v13), .val (.int ch15), .val (.int ch17), .val (.int ch19), .val (.int ch21), .val (.int ch23), .val (.int ch25), .val (.ref a27), .val (.int (-1 : Int32)), .unset, .unset] [(.ref a27)])) rfl (by rw [hml]; rfl) (argsL := [(.ref a27)]) (rest := []) (lenOf pd_10 rfl) rfl (by show 2 * 0 + _ ≤ _; exact Nat.le_of_eq rfl) (hb hby at_375) (fun _ _ => ⟨rfl, e49, (by decide : 14 + 2 ≤ _), (by decide : 136 + 5 ≤ _)⟩)
                            dsimp only [Pt.U, Pt.locs, Pt.cells, Pt.slots] at X57 l57 y57 z57 st57 hQ57
                            rw [l57, y57, z57] at X57
                            obtain ⟨o57, rfl, N57q, K57q, EO57, FO57⟩ := hQ57
                            have N57 := Fr.app N49 N57q
                            have Z57 : n0 ≤ T57.heap.size := Nat.le_trans Z46 K57q.1
                            have Kp57 := Kp46.trans K57q (fun x hx => nomatch hx)
                            have OV57 : own_opt A cs27 = .null := by
                              unfold own_opt
                              rw [if_neg (fun q => own_if0 hc319_33 q.symm), if_neg (fun q => own_if0 hc335_39 q.symm), if_neg (fun q => own_if0 hc351_45 q.symm), if_neg (fun q => own_if0 hc367_51 q.symm)]
                            rw [OV57] at FO57
                            obtain ⟨cq58, kq58, q58a, q58b, q58c⟩ := isOf hZ46 rfl EO57
                            obtain ⟨_, _, ⟨T58, L58, k58, n58⟩, -, X58, ⟨Lc58, hQ58, l58, y58, z58⟩, st58⟩ := X57.virtualBack hx (y := (⟨"java/util/Optional", "isPresent", "()Z"⟩ : MethodName)) (z := (⟨"java/util/Optional", "isPresent", "()Z"⟩ : MethodName)) hown46 (mvT hZ46 (hw _ (List.mem_of_getElem? (i := 131) rfl))) (mvT hZ46 (hw _ (List.mem_of_getElem? (i := 132) rfl))) (notFace_of_selects (args := #[]) (mvT hZ46 (hw _ (List.mem_of_getElem? (i := 134) rfl)))) (mvT hZ46 (hw _ (List.mem_of_getElem? (i := 134) rfl))) (mvT hZ46 (hw _ (List.mem_of_getElem? (i := 133) rfl))) (by decide) (backOf (W := 0) (rm24n l Z a0 hw [] o57 T57.heap n0 Z57 FO57) hZ46 (hw _ (List.mem_of_getElem? (i := 135) rfl)) (hw _ (List.mem_of_getElem? (i := 89) rfl)) (by decide) (by decide)) q58a q58c (g := (mkF m 387 #[.val (.int p0), .val (.int p1), .val (.int p2), .val (.int p3), .val (.long q4), .second, .val (.int v1), .val (.int v2), .val (.ref a4), .val (.int v6), .val (.int nn8), .val (.int v10), .val (.int v12), .val (.int v13), .val (.int ch15), .val (.int ch17), .val (.int ch19), .val (.int ch21), .val (.int ch23), .val (.int ch25), .val (.ref a27), .val (.int (-1 : Int32)), .val (.ref o57), .unset] [(.ref o57)])) rfl (by rw [hml]; rfl) (Steps.refl _) (argsL := []) (rest := []) (lenOf pd_11 rfl) rfl (by show 2 * 0 + _ ≤ _; exact Nat.le_of_eq rfl) (hb hby at_387) (fun _ _ => ⟨rfl, rfl, (by decide : 16 + 0 ≤ _), (by decide : 141 + 0 ≤ _)⟩)
                            dsimp only [Pt.U, Pt.locs, Pt.cells, Pt.slots] at X58 l58 y58 z58 st58 hQ58
                            rw [l58, y58, z58] at X58
                            obtain ⟨rfl, N58q, e58⟩ := hQ58
                            have N58 := Fr.app N57 N58q
                            obtain ⟨fs, hr, hrun, hended, hEnd⟩ := X58.leaveW hS46 (by rw [e58]; exact (Nat.le_trans hk46 K57q.1)) (v := some (.int (1 : Int32))) (fun h => by rw [Bd.returns] at h; cases h)
                            refine ⟨_, _, ?_, hrun, hended, _, _, rfl, ?_, hEnd.1, hEnd.2.1, hEnd.2.2.1, hEnd.2.2.2.mono (by decide) (by decide)⟩
                            · refine XS.aload X49.here hx rfl (hb hby at_373) rfl rfl ?_
                              refine st57 _ ?_
                              show Steps p.tables e below (T57.setTop (mkF m 378 #[.val (.int p0), .val (.int p1), .val (.int p2), .val (.int p3), .val (.long q4), .second, .val (.int v1), .val (.int v2), .val (.ref a4), .val (.int v6), .val (.int nn8), .val (.int v10), .val (.int v12), .val (.int v13), .val (.int ch15), .val (.int ch17), .val (.int ch19), .val (.int ch21), .val (.int ch23), .val (.int ch25), .val (.ref a27), .val (.int (-1 : Int32)), .unset, .unset] [(.ref o57)])) _
                              refine XS.astore X57.here hx rfl (hb hby at_378) rfl rfl (l' := #[.val (.int p0), .val (.int p1), .val (.int p2), .val (.int p3), .val (.long q4), .second, .val (.int v1), .val (.int v2), .val (.ref a4), .val (.int v6), .val (.int nn8), .val (.int v10), .val (.int v12), .val (.int v13), .val (.int ch15), .val (.int ch17), .val (.int ch19), .val (.int ch21), .val (.int ch23), .val (.int ch25), .val (.ref a27), .val (.int (-1 : Int32)), .val (.ref o57), .unset]) rfl ?_
                              refine XS.iload X57.here hx rfl (hb hby at_380) rfl ?_
                              show Steps p.tables e below (T57.setTop (mkF m 382 #[.val (.int p0), .val (.int p1), .val (.int p2), .val (.int p3), .val (.long q4), .second, .val (.int v1), .val (.int v2), .val (.ref a4), .val (.int v6), .val (.int nn8), .val (.int v10), .val (.int v12), .val (.int v13), .val (.int ch15), .val (.int ch17), .val (.int ch19), .val (.int ch21), .val (.int ch23), .val (.int ch25), .val (.ref a27), .val (.int (-1 : Int32)), .val (.ref o57), .unset] [(.int (-1 : Int32))])) _
                              refine XS.ifNo X57.here hx rfl (hb hby at_382) rfl ((if0 _ _).trans (tlt (by decide : (-1 : Int32) < (0 : Int32))).2.1) ?_
                              refine XS.aload X57.here hx rfl (hb hby at_385) rfl rfl ?_
                              refine st58.trans ?_
                              show Steps p.tables e below (T58.setTop (mkF m 390 #[.val (.int p0), .val (.int p1), .val (.int p2), .val (.int p3), .val (.long q4), .second, .val (.int v1), .val (.int v2), .val (.ref a4), .val (.int v6), .val (.int nn8), .val (.int v10), .val (.int v12), .val (.int v13), .val (.int ch15), .val (.int ch17), .val (.int ch19), .val (.int ch21), .val (.int ch23), .val (.int ch25), .val (.ref a27), .val (.int (-1 : Int32)), .val (.ref o57), .unset] [(.int (0 : Int32))])) _
                              refine XS.ifNo X58.here hx rfl (hb hby at_390) rfl ((if0 _ _).trans (teq (rfl : (0 : Int32) = (0 : Int32))).2) ?_
                              show Steps p.tables e below (T58.setTop (mkF m 393 #[.val (.int p0), .val (.int p1), .val (.int p2), .val (.int p3), .val (.long q4), .second, .val (.int v1), .val (.int v2), .val (.ref a4), .val (.int v6), .val (.int nn8), .val (.int v10), .val (.int v12), .val (.int v13), .val (.int ch15), .val (.int ch17), .val (.int ch19), .val (.int ch21), .val (.int ch23), .val (.int ch25), .val (.ref a27), .val (.int (-1 : Int32)), .val (.ref o57), .unset] [])) _
                              refine XS.iconst X58.here hx rfl (hb hby at_393) ?_
                              show Steps p.tables e below (T58.setTop (mkF m 394 #[.val (.int p0), .val (.int p1), .val (.int p2), .val (.int p3), .val (.long q4), .second, .val (.int v1), .val (.int v2), .val (.ref a4), .val (.int v6), .val (.int nn8), .val (.int v10), .val (.int v12), .val (.int v13), .val (.int ch15), .val (.int ch17), .val (.int ch19), .val (.int ch21), .val (.int ch23), .val (.int ch25), .val (.ref a27), .val (.int (-1 : Int32)), .val (.ref o57), .unset] [(.int (1 : Int32))])) _
                              refine XS.goto X58.here hx rfl (pc0 := 394) (pc' := 398) rfl (hb hby at_394) (by decide) (by decide) ?_
                              show Steps p.tables e below (T58.setTop (mkF m 398 #[.val (.int p0), .val (.int p1), .val (.int p2), .val (.int p3), .val (.long q4), .second, .val (.int v1), .val (.int v2), .val (.ref a4), .val (.int v6), .val (.int nn8), .val (.int v10), .val (.int v12), .val (.int v13), .val (.int ch15), .val (.int ch17), .val (.int ch19), .val (.int ch21), .val (.int ch23), .val (.int ch25), .val (.ref a27), .val (.int (-1 : Int32)), .val (.ref o57), .unset] [(.int (1 : Int32))])) _
                              exact retN X58 hx (t := .boolean) Bd.returns (by simp) (hb hby at_398) hr
                            · show Q0 Z p0 p1 p2 p3 q4 A NM va em kv dv cz fm h0 n0 _ T58.heap _
                              rw [e58]
                              exact ⟨rfl, N58⟩
                          · have K : ∀ target, Steps p.tables e below (T49.setTop (mkF m 370 #[.val (.int p0), .val (.int p1), .val (.int p2), .val (.int p3), .val (.long q4), .second, .val (.int v1), .val (.int v2), .val (.ref a4), .val (.int v6), .val (.int nn8), .val (.int v10), .val (.int v12), .val (.int v13), .val (.int ch15), .val (.int ch17), .val (.int ch19), .val (.int ch21), .val (.int ch23), .val (.int ch25), .val (.ref a27), .val (.int (-1 : Int32)), .unset, .unset] [])) target → Steps p.tables e below (T49.setTop (mkF m 367 #[.val (.int p0), .val (.int p1), .val (.int p2), .val (.int p3), .val (.long q4), .second, .val (.int v1), .val (.int v2), .val (.ref a4), .val (.int v6), .val (.int nn8), .val (.int v10), .val (.int v12), .val (.int v13), .val (.int ch15), .val (.int ch17), .val (.int ch19), .val (.int ch21), .val (.int ch23), .val (.int ch25), .val (.ref a27), .val (.int (-1 : Int32)), .unset, .unset] [(.int (if cs27 = own_c3 then (1 : Int32) else (0 : Int32)))])) target := by
                              intro target kt
                              refine XS.ifNo X49.here hx rfl (hb hby at_367) rfl ((if0 _ _).trans (feq hc367_51).1) ?_
                              exact kt
                            refine Done.of ?_ K
                            have cy59 := (HW.keep0 Kc27)
                            have cy60 := (cy59.ext E28)
                            have cy61 := (cy60.ext E34)
                            have cy62 := (cy61.ext E40)
                            have cy63 := (cy62.ext E46)
                            obtain ⟨_, _, ⟨T64, L64, k64, n64⟩, -, X64, ⟨Lc64, hQ64, l64, y64, z64⟩, st64⟩ := Jvm.LawKit.callS X49 hx (y := (⟨"com/example/ensyn/ensyn/region/NetClass", "named", "(Ljava/lang/String;)Ljava/util/Optional;"⟩ : MethodName)) hown46 (mvT hZ46 (hw _ (List.mem_of_getElem? (i := 83) rfl))) (mvT hZ46 (hw _ (List.mem_of_getElem? (i := 84) rfl))) (mvT hZ46 (hw _ (List.mem_of_getElem? (i := 85) rfl))) (mvT hZ46 (hw _ (List.mem_of_getElem? (i := 86) rfl))) (by decide) (backOf (W := 0) (rm18 l Z a0 hw [] a27 A NM va em kv dv cs27 cz h46 n0 Z46 cy63 (S_VALUES.ext (cy42.ext E46).2) (S_EMPTY.ext (cy42.ext E46).2) (S_COMPACT_STRINGS.ext (cy42.ext E46).2) hcs cy48) hZ46 (hw _ (List.mem_of_getElem? (i := 86) rfl)) (hw _ (List.mem_of_getElem? (i := 85) rfl)) (by decide) (by decide)) (g := (mkF m 375 #[.val (.int p0), .val (.int p1), .val (.int p2), .val (.int p3), .val (.long q4), .second, .val (.int v1), .val (.int v2), .val (.ref a4), .val (.int v6), .val (.int nn8), .val (.int v10), .val (.int v12), .val (.int v13), .val (.int ch15), .val (.int ch17), .val (.int ch19), .val (.int ch21), .val (.int ch23), .val (.int ch25), .val (.ref a27), .val (.int (3 : Int32)), .unset, .unset] [(.ref a27)])) rfl (by rw [hml]; rfl) (argsL := [(.ref a27)]) (rest := []) (lenOf pd_10 rfl) rfl (by show 2 * 0 + _ ≤ _; exact Nat.le_of_eq rfl) (hb hby at_375) (fun _ _ => ⟨rfl, e49, (by decide : 14 + 2 ≤ _), (by decide : 136 + 5 ≤ _)⟩)
                            dsimp only [Pt.U, Pt.locs, Pt.cells, Pt.slots] at X64 l64 y64 z64 st64 hQ64
                            rw [l64, y64, z64] at X64
                            obtain ⟨o64, rfl, N64q, K64q, EO64, FO64⟩ := hQ64
                            have N64 := Fr.app N49 N64q
                            have Z64 : n0 ≤ T64.heap.size := Nat.le_trans Z46 K64q.1
                            have Kp64 := Kp46.trans K64q (fun x hx => nomatch hx)
                            have OV64 : own_opt A cs27 = (.ref (A 3)) := by
                              unfold own_opt
                              rw [if_neg (fun q => own_if0 hc319_33 q.symm), if_neg (fun q => own_if0 hc335_39 q.symm), if_neg (fun q => own_if0 hc351_45 q.symm), if_pos (own_if1 hc367_51).symm]
                            rw [OV64] at FO64
                            have cy65 := (cy42.ext E46)
                            have cy66 := (cy65.keep K64q all0)
                            obtain ⟨T67, X67, e67, st67⟩ := getS2 X64 hx hZ46 hown46 (host := "") (Or.inl (hw _ (List.mem_of_getElem? (i := 144) rfl))) Via.refl rfl (S_CHOICE_FREE.ext cy66.2) (g := (mkF m 434 #[.val (.int p0), .val (.int p1), .val (.int p2), .val (.int p3), .val (.long q4), .second, .val (.int v1), .val (.int v2), .val (.ref a4), .val (.int v6), .val (.int nn8), .val (.int v10), .val (.int v12), .val (.int v13), .val (.int ch15), .val (.int ch17), .val (.int ch19), .val (.int ch21), .val (.int ch23), .val (.int ch25), .val (.ref a27), .val (.int (3 : Int32)), .val (.ref o64), .unset] [])) rfl (hb hby at_434)
                            obtain ⟨cq68, kq68, q68a, q68b, q68c⟩ := isOf hZ46 e67 EO64
                            obtain ⟨_, _, ⟨T68, L68, k68, n68⟩, -, X68, ⟨Lc68, hQ68, l68, y68, z68⟩, st68⟩ := X67.virtualBack hx (y := (⟨"java/util/Optional", "isPresent", "()Z"⟩ : MethodName)) (z := (⟨"java/util/Optional", "isPresent", "()Z"⟩ : MethodName)) hown46 (mvT hZ46 (hw _ (List.mem_of_getElem? (i := 131) rfl))) (mvT hZ46 (hw _ (List.mem_of_getElem? (i := 132) rfl))) (notFace_of_selects (args := #[]) (mvT hZ46 (hw _ (List.mem_of_getElem? (i := 134) rfl)))) (mvT hZ46 (hw _ (List.mem_of_getElem? (i := 134) rfl))) (mvT hZ46 (hw _ (List.mem_of_getElem? (i := 133) rfl))) (by decide) (backOf (W := 0) (rm24y l Z a0 hw [] o64 (A 3) T64.heap n0 Z64 FO64) hZ46 (hw _ (List.mem_of_getElem? (i := 135) rfl)) (hw _ (List.mem_of_getElem? (i := 89) rfl)) (by decide) (by decide)) q68a q68c (g := (mkF m 441 #[.val (.int p0), .val (.int p1), .val (.int p2), .val (.int p3), .val (.long q4), .second, .val (.int v1), .val (.int v2), .val (.ref a4), .val (.int v6), .val (.int nn8), .val (.int v10), .val (.int v12), .val (.int v13), .val (.int ch15), .val (.int ch17), .val (.int ch19), .val (.int ch21), .val (.int ch23), .val (.int ch25), .val (.ref a27), .val (.int (3 : Int32)), .val (.ref o64), .val (.ref (A 3))] [(.ref o64)])) rfl (by rw [hml]; rfl) (Steps.refl _) (argsL := []) (rest := []) (lenOf pd_11 rfl) rfl (by show 2 * 0 + _ ≤ _; exact Nat.le_of_eq rfl) (hb hby at_441) (fun _ _ => ⟨rfl, e67, (by decide : 16 + 0 ≤ _), (by decide : 141 + 0 ≤ _)⟩)
                            dsimp only [Pt.U, Pt.locs, Pt.cells, Pt.slots] at X68 l68 y68 z68 st68 hQ68
                            rw [l68, y68, z68] at X68
                            obtain ⟨rfl, N68q, e68⟩ := hQ68
                            have N68 := Fr.app N64 N68q
                            obtain ⟨cq69, kq69, q69a, q69b, q69c⟩ := isOf hZ46 e68 EO64
                            obtain ⟨_, _, ⟨T69, L69, k69, n69⟩, -, X69, ⟨Lc69, hQ69, l69, y69, z69⟩, st69⟩ := X68.virtualBack hx (y := (⟨"java/util/Optional", "get", "()Ljava/lang/Object;"⟩ : MethodName)) (z := (⟨"java/util/Optional", "get", "()Ljava/lang/Object;"⟩ : MethodName)) hown46 (mvT hZ46 (hw _ (List.mem_of_getElem? (i := 136) rfl))) (mvT hZ46 (hw _ (List.mem_of_getElem? (i := 137) rfl))) (notFace_of_selects (args := #[]) (mvT hZ46 (hw _ (List.mem_of_getElem? (i := 139) rfl)))) (mvT hZ46 (hw _ (List.mem_of_getElem? (i := 139) rfl))) (mvT hZ46 (hw _ (List.mem_of_getElem? (i := 138) rfl))) (by decide) (backOf (W := 0) (rm25 l Z a0 hw [] o64 (A 3) T64.heap n0 Z64 FO64) hZ46 (hw _ (List.mem_of_getElem? (i := 140) rfl)) (hw _ (List.mem_of_getElem? (i := 89) rfl)) (by decide) (by decide)) q69a q69c (g := (mkF m 449 #[.val (.int p0), .val (.int p1), .val (.int p2), .val (.int p3), .val (.long q4), .second, .val (.int v1), .val (.int v2), .val (.ref a4), .val (.int v6), .val (.int nn8), .val (.int v10), .val (.int v12), .val (.int v13), .val (.int ch15), .val (.int ch17), .val (.int ch19), .val (.int ch21), .val (.int ch23), .val (.int ch25), .val (.ref a27), .val (.int (3 : Int32)), .val (.ref o64), .val (.ref (A 3))] [(.ref o64)])) rfl (by rw [hml]; rfl) (Steps.refl _) (argsL := []) (rest := []) (lenOf pd_12 rfl) rfl (by show 2 * 0 + _ ≤ _; exact Nat.le_of_eq rfl) (hb hby at_449) (fun _ _ => ⟨rfl, e68, (by decide : 16 + 0 ≤ _), (by decide : 141 + 0 ≤ _)⟩)
                            dsimp only [Pt.U, Pt.locs, Pt.cells, Pt.slots] at X69 l69 y69 z69 st69 hQ69
                            rw [l69, y69, z69] at X69
                            obtain ⟨rfl, N69q, e69⟩ := hQ69
                            have N69 := Fr.app N68 N69q
                            obtain ⟨fs, hr, hrun, hended, hEnd⟩ := X69.leaveW hS46 (by rw [e69]; exact (Nat.le_trans hk46 K64q.1)) (v := some (.int (1 : Int32))) (fun h => by rw [Bd.returns] at h; cases h)
                            refine ⟨_, _, ?_, hrun, hended, _, _, rfl, ?_, hEnd.1, hEnd.2.1, hEnd.2.2.1, hEnd.2.2.2.mono (by decide) (by decide)⟩
                            · refine XS.iconst X49.here hx rfl (hb hby at_370) ?_
                              refine XS.istore X49.here hx rfl (hb hby at_371) rfl (l' := #[.val (.int p0), .val (.int p1), .val (.int p2), .val (.int p3), .val (.long q4), .second, .val (.int v1), .val (.int v2), .val (.ref a4), .val (.int v6), .val (.int nn8), .val (.int v10), .val (.int v12), .val (.int v13), .val (.int ch15), .val (.int ch17), .val (.int ch19), .val (.int ch21), .val (.int ch23), .val (.int ch25), .val (.ref a27), .val (.int (3 : Int32)), .unset, .unset]) rfl ?_
                              refine XS.aload X49.here hx rfl (hb hby at_373) rfl rfl ?_
                              show Steps p.tables e below (T49.setTop (mkF m 375 #[.val (.int p0), .val (.int p1), .val (.int p2), .val (.int p3), .val (.long q4), .second, .val (.int v1), .val (.int v2), .val (.ref a4), .val (.int v6), .val (.int nn8), .val (.int v10), .val (.int v12), .val (.int v13), .val (.int ch15), .val (.int ch17), .val (.int ch19), .val (.int ch21), .val (.int ch23), .val (.int ch25), .val (.ref a27), .val (.int (3 : Int32)), .unset, .unset] [(.ref a27)])) _
                              refine st64 _ ?_
                              refine XS.astore X64.here hx rfl (hb hby at_378) rfl rfl (l' := #[.val (.int p0), .val (.int p1), .val (.int p2), .val (.int p3), .val (.long q4), .second, .val (.int v1), .val (.int v2), .val (.ref a4), .val (.int v6), .val (.int nn8), .val (.int v10), .val (.int v12), .val (.int v13), .val (.int ch15), .val (.int ch17), .val (.int ch19), .val (.int ch21), .val (.int ch23), .val (.int ch25), .val (.ref a27), .val (.int (3 : Int32)), .val (.ref o64), .unset]) rfl ?_
                              refine XS.iload X64.here hx rfl (hb hby at_380) rfl ?_
                              show Steps p.tables e below (T64.setTop (mkF m 382 #[.val (.int p0), .val (.int p1), .val (.int p2), .val (.int p3), .val (.long q4), .second, .val (.int v1), .val (.int v2), .val (.ref a4), .val (.int v6), .val (.int nn8), .val (.int v10), .val (.int v12), .val (.int v13), .val (.int ch15), .val (.int ch17), .val (.int ch19), .val (.int ch21), .val (.int ch23), .val (.int ch25), .val (.ref a27), .val (.int (3 : Int32)), .val (.ref o64), .unset] [(.int (3 : Int32))])) _
                              refine XS.ifYes X64.here hx rfl (pc0 := 382) (pc' := 399) rfl (hb hby at_382) rfl ((if0 _ _).trans (flt (by decide : ¬ ((3 : Int32) < (0 : Int32)))).2.1) (by decide) (by decide) ?_
                              refine XS.iload X64.here hx rfl (hb hby at_399) rfl ?_
                              show Steps p.tables e below (T64.setTop (mkF m 401 #[.val (.int p0), .val (.int p1), .val (.int p2), .val (.int p3), .val (.long q4), .second, .val (.int v1), .val (.int v2), .val (.ref a4), .val (.int v6), .val (.int nn8), .val (.int v10), .val (.int v12), .val (.int v13), .val (.int ch15), .val (.int ch17), .val (.int ch19), .val (.int ch21), .val (.int ch23), .val (.int ch25), .val (.ref a27), .val (.int (3 : Int32)), .val (.ref o64), .unset] [(.int (3 : Int32))])) _
                              refine XS.ifYes X64.here hx rfl (pc0 := 401) (pc' := 410) rfl (hb hby at_401) rfl ((if0 _ _).trans (feq (by decide : ¬ ((3 : Int32) = (0 : Int32)))).2) (by decide) (by decide) ?_
                              show Steps p.tables e below (T64.setTop (mkF m 410 #[.val (.int p0), .val (.int p1), .val (.int p2), .val (.int p3), .val (.long q4), .second, .val (.int v1), .val (.int v2), .val (.ref a4), .val (.int v6), .val (.int nn8), .val (.int v10), .val (.int v12), .val (.int v13), .val (.int ch15), .val (.int ch17), .val (.int ch19), .val (.int ch21), .val (.int ch23), .val (.int ch25), .val (.ref a27), .val (.int (3 : Int32)), .val (.ref o64), .unset] [])) _
                              refine XS.iload X64.here hx rfl (hb hby at_410) rfl ?_
                              refine XS.iconst X64.here hx rfl (hb hby at_412) ?_
                              show Steps p.tables e below (T64.setTop (mkF m 413 #[.val (.int p0), .val (.int p1), .val (.int p2), .val (.int p3), .val (.long q4), .second, .val (.int v1), .val (.int v2), .val (.ref a4), .val (.int v6), .val (.int nn8), .val (.int v10), .val (.int v12), .val (.int v13), .val (.int ch15), .val (.int ch17), .val (.int ch19), .val (.int ch21), .val (.int ch23), .val (.int ch25), .val (.ref a27), .val (.int (3 : Int32)), .val (.ref o64), .unset] [(.int (1 : Int32)), (.int (3 : Int32))])) _
                              refine XS.icmpYes X64.here hx rfl (pc0 := 413) (pc' := 422) rfl (hb hby at_413) rfl (feq (by decide : ¬ ((3 : Int32) = (1 : Int32)))).2 (by decide) (by decide) ?_
                              refine XS.iload X64.here hx rfl (hb hby at_422) rfl ?_
                              refine XS.iconst X64.here hx rfl (hb hby at_424) ?_
                              show Steps p.tables e below (T64.setTop (mkF m 425 #[.val (.int p0), .val (.int p1), .val (.int p2), .val (.int p3), .val (.long q4), .second, .val (.int v1), .val (.int v2), .val (.ref a4), .val (.int v6), .val (.int nn8), .val (.int v10), .val (.int v12), .val (.int v13), .val (.int ch15), .val (.int ch17), .val (.int ch19), .val (.int ch21), .val (.int ch23), .val (.int ch25), .val (.ref a27), .val (.int (3 : Int32)), .val (.ref o64), .unset] [(.int (2 : Int32)), (.int (3 : Int32))])) _
                              refine XS.icmpYes X64.here hx rfl (pc0 := 425) (pc' := 434) rfl (hb hby at_425) rfl (feq (by decide : ¬ ((3 : Int32) = (2 : Int32)))).2 (by decide) (by decide) ?_
                              show Steps p.tables e below (T64.setTop (mkF m 434 #[.val (.int p0), .val (.int p1), .val (.int p2), .val (.int p3), .val (.long q4), .second, .val (.int v1), .val (.int v2), .val (.ref a4), .val (.int v6), .val (.int nn8), .val (.int v10), .val (.int v12), .val (.int v13), .val (.int ch15), .val (.int ch17), .val (.int ch19), .val (.int ch21), .val (.int ch23), .val (.int ch25), .val (.ref a27), .val (.int (3 : Int32)), .val (.ref o64), .unset] [])) _
                              refine st67 _ ?_
                              refine XS.astore X67.here hx rfl (hb hby at_437) rfl rfl (l' := #[.val (.int p0), .val (.int p1), .val (.int p2), .val (.int p3), .val (.long q4), .second, .val (.int v1), .val (.int v2), .val (.ref a4), .val (.int v6), .val (.int nn8), .val (.int v10), .val (.int v12), .val (.int v13), .val (.int ch15), .val (.int ch17), .val (.int ch19), .val (.int ch21), .val (.int ch23), .val (.int ch25), .val (.ref a27), .val (.int (3 : Int32)), .val (.ref o64), .val (.ref (A 3))]) rfl ?_
                              refine XS.aload X67.here hx rfl (hb hby at_439) rfl rfl ?_
                              refine st68.trans ?_
                              show Steps p.tables e below (T68.setTop (mkF m 444 #[.val (.int p0), .val (.int p1), .val (.int p2), .val (.int p3), .val (.long q4), .second, .val (.int v1), .val (.int v2), .val (.ref a4), .val (.int v6), .val (.int nn8), .val (.int v10), .val (.int v12), .val (.int v13), .val (.int ch15), .val (.int ch17), .val (.int ch19), .val (.int ch21), .val (.int ch23), .val (.int ch25), .val (.ref a27), .val (.int (3 : Int32)), .val (.ref o64), .val (.ref (A 3))] [(.int (1 : Int32))])) _
                              refine XS.ifNo X68.here hx rfl (hb hby at_444) rfl ((if0 _ _).trans (feq (by decide : ¬ ((1 : Int32) = (0 : Int32)))).1) ?_
                              show Steps p.tables e below (T68.setTop (mkF m 447 #[.val (.int p0), .val (.int p1), .val (.int p2), .val (.int p3), .val (.long q4), .second, .val (.int v1), .val (.int v2), .val (.ref a4), .val (.int v6), .val (.int nn8), .val (.int v10), .val (.int v12), .val (.int v13), .val (.int ch15), .val (.int ch17), .val (.int ch19), .val (.int ch21), .val (.int ch23), .val (.int ch25), .val (.ref a27), .val (.int (3 : Int32)), .val (.ref o64), .val (.ref (A 3))] [])) _
                              refine XS.aload X68.here hx rfl (hb hby at_447) rfl rfl ?_
                              refine st69.trans ?_
                              refine XS.aload X69.here hx rfl (hb hby at_452) rfl rfl ?_
                              show Steps p.tables e below (T69.setTop (mkF m 454 #[.val (.int p0), .val (.int p1), .val (.int p2), .val (.int p3), .val (.long q4), .second, .val (.int v1), .val (.int v2), .val (.ref a4), .val (.int v6), .val (.int nn8), .val (.int v10), .val (.int v12), .val (.int v13), .val (.int ch15), .val (.int ch17), .val (.int ch19), .val (.int ch21), .val (.int ch23), .val (.int ch25), .val (.ref a27), .val (.int (3 : Int32)), .val (.ref o64), .val (.ref (A 3))] [(.ref (A 3)), (.ref (A 3))])) _
                              refine Jvm.RoadKit.acmp (g := (mkF m 454 #[.val (.int p0), .val (.int p1), .val (.int p2), .val (.int p3), .val (.long q4), .second, .val (.int v1), .val (.int v2), .val (.ref a4), .val (.int v6), .val (.int nn8), .val (.int v10), .val (.int v12), .val (.int v13), .val (.int ch15), .val (.int ch17), .val (.int ch19), .val (.int ch21), .val (.int ch23), .val (.int ch25), .val (.ref a27), .val (.int (3 : Int32)), .val (.ref o64), .val (.ref (A 3))] [(.ref (A 3)), (.ref (A 3))])) X69 hx rfl rfl rfl (pc0 := 454) (pc' := 457) (same := true) rfl (hb hby at_454) rfl (decide_eq_true rfl) (by decide) (by decide) ?_
                              refine XS.iconst X69.here hx rfl (hb hby at_457) ?_
                              show Steps p.tables e below (T69.setTop (mkF m 458 #[.val (.int p0), .val (.int p1), .val (.int p2), .val (.int p3), .val (.long q4), .second, .val (.int v1), .val (.int v2), .val (.ref a4), .val (.int v6), .val (.int nn8), .val (.int v10), .val (.int v12), .val (.int v13), .val (.int ch15), .val (.int ch17), .val (.int ch19), .val (.int ch21), .val (.int ch23), .val (.int ch25), .val (.ref a27), .val (.int (3 : Int32)), .val (.ref o64), .val (.ref (A 3))] [(.int (1 : Int32))])) _
                              refine XS.goto X69.here hx rfl (pc0 := 458) (pc' := 462) rfl (hb hby at_458) (by decide) (by decide) ?_
                              show Steps p.tables e below (T69.setTop (mkF m 462 #[.val (.int p0), .val (.int p1), .val (.int p2), .val (.int p3), .val (.long q4), .second, .val (.int v1), .val (.int v2), .val (.ref a4), .val (.int v6), .val (.int nn8), .val (.int v10), .val (.int v12), .val (.int v13), .val (.int ch15), .val (.int ch17), .val (.int ch19), .val (.int ch21), .val (.int ch23), .val (.int ch25), .val (.ref a27), .val (.int (3 : Int32)), .val (.ref o64), .val (.ref (A 3))] [(.int (1 : Int32))])) _
                              exact retN X69 hx (t := .boolean) Bd.returns (by simp) (hb hby at_462) hr
                            · show Q0 Z p0 p1 p2 p3 q4 A NM va em kv dv cz fm h0 n0 _ T69.heap _
                              rw [e69]
                              exact ⟨rfl, N69⟩
                        · have K : ∀ target, Steps p.tables e below (T43.setTop (mkF m 354 #[.val (.int p0), .val (.int p1), .val (.int p2), .val (.int p3), .val (.long q4), .second, .val (.int v1), .val (.int v2), .val (.ref a4), .val (.int v6), .val (.int nn8), .val (.int v10), .val (.int v12), .val (.int v13), .val (.int ch15), .val (.int ch17), .val (.int ch19), .val (.int ch21), .val (.int ch23), .val (.int ch25), .val (.ref a27), .val (.int (-1 : Int32)), .unset, .unset] [])) target → Steps p.tables e below (T43.setTop (mkF m 351 #[.val (.int p0), .val (.int p1), .val (.int p2), .val (.int p3), .val (.long q4), .second, .val (.int v1), .val (.int v2), .val (.ref a4), .val (.int v6), .val (.int nn8), .val (.int v10), .val (.int v12), .val (.int v13), .val (.int ch15), .val (.int ch17), .val (.int ch19), .val (.int ch21), .val (.int ch23), .val (.int ch25), .val (.ref a27), .val (.int (-1 : Int32)), .unset, .unset] [(.int (if cs27 = own_c2 then (1 : Int32) else (0 : Int32)))])) target := by
                            intro target kt
                            refine XS.ifNo X43.here hx rfl (hb hby at_351) rfl ((if0 _ _).trans (feq hc351_45).1) ?_
                            exact kt
                          refine Done.of ?_ K
                          have cy70 := (HW.keep0 Kc27)
                          have cy71 := (cy70.ext E28)
                          have cy72 := (cy71.ext E34)
                          have cy73 := (cy72.ext E40)
                          obtain ⟨_, _, ⟨T74, L74, k74, n74⟩, -, X74, ⟨Lc74, hQ74, l74, y74, z74⟩, st74⟩ := Jvm.LawKit.callS X43 hx (y := (⟨"com/example/ensyn/ensyn/region/NetClass", "named", "(Ljava/lang/String;)Ljava/util/Optional;"⟩ : MethodName)) hown40 (mvT hZ40 (hw _ (List.mem_of_getElem? (i := 83) rfl))) (mvT hZ40 (hw _ (List.mem_of_getElem? (i := 84) rfl))) (mvT hZ40 (hw _ (List.mem_of_getElem? (i := 85) rfl))) (mvT hZ40 (hw _ (List.mem_of_getElem? (i := 86) rfl))) (by decide) (backOf (W := 0) (rm18 l Z a0 hw [] a27 A NM va em kv dv cs27 cz h40 n0 Z40 cy73 (S_VALUES.ext cy42.2) (S_EMPTY.ext cy42.2) (S_COMPACT_STRINGS.ext cy42.2) hcs (cy36.ext E40)) hZ40 (hw _ (List.mem_of_getElem? (i := 86) rfl)) (hw _ (List.mem_of_getElem? (i := 85) rfl)) (by decide) (by decide)) (g := (mkF m 375 #[.val (.int p0), .val (.int p1), .val (.int p2), .val (.int p3), .val (.long q4), .second, .val (.int v1), .val (.int v2), .val (.ref a4), .val (.int v6), .val (.int nn8), .val (.int v10), .val (.int v12), .val (.int v13), .val (.int ch15), .val (.int ch17), .val (.int ch19), .val (.int ch21), .val (.int ch23), .val (.int ch25), .val (.ref a27), .val (.int (2 : Int32)), .unset, .unset] [(.ref a27)])) rfl (by rw [hml]; rfl) (argsL := [(.ref a27)]) (rest := []) (lenOf pd_10 rfl) rfl (by show 2 * 0 + _ ≤ _; exact Nat.le_of_eq rfl) (hb hby at_375) (fun _ _ => ⟨rfl, e43, (by decide : 12 + 2 ≤ _), (by decide : 112 + 5 ≤ _)⟩)
                          dsimp only [Pt.U, Pt.locs, Pt.cells, Pt.slots] at X74 l74 y74 z74 st74 hQ74
                          rw [l74, y74, z74] at X74
                          obtain ⟨o74, rfl, N74q, K74q, EO74, FO74⟩ := hQ74
                          have N74 := Fr.app N43 N74q
                          have Z74 : n0 ≤ T74.heap.size := Nat.le_trans Z40 K74q.1
                          have Kp74 := Kp40.trans K74q (fun x hx => nomatch hx)
                          have OV74 : own_opt A cs27 = (.ref (A 2)) := by
                            unfold own_opt
                            rw [if_neg (fun q => own_if0 hc319_33 q.symm), if_neg (fun q => own_if0 hc335_39 q.symm), if_pos (own_if1 hc351_45).symm]
                          rw [OV74] at FO74
                          obtain ⟨T75, X75, e75, st75⟩ := getS2 X74 hx hZ40 hown40 (host := "") (Or.inl (hw _ (List.mem_of_getElem? (i := 147) rfl))) Via.refl rfl (S_WEIGHTED_MARKED_GRAPH.ext (cy42.keep K74q all0).2) (g := (mkF m 428 #[.val (.int p0), .val (.int p1), .val (.int p2), .val (.int p3), .val (.long q4), .second, .val (.int v1), .val (.int v2), .val (.ref a4), .val (.int v6), .val (.int nn8), .val (.int v10), .val (.int v12), .val (.int v13), .val (.int ch15), .val (.int ch17), .val (.int ch19), .val (.int ch21), .val (.int ch23), .val (.int ch25), .val (.ref a27), .val (.int (2 : Int32)), .val (.ref o74), .unset] [])) rfl (hb hby at_428)
                          obtain ⟨cq76, kq76, q76a, q76b, q76c⟩ := isOf hZ40 e75 EO74
                          obtain ⟨_, _, ⟨T76, L76, k76, n76⟩, -, X76, ⟨Lc76, hQ76, l76, y76, z76⟩, st76⟩ := X75.virtualBack hx (y := (⟨"java/util/Optional", "isPresent", "()Z"⟩ : MethodName)) (z := (⟨"java/util/Optional", "isPresent", "()Z"⟩ : MethodName)) hown40 (mvT hZ40 (hw _ (List.mem_of_getElem? (i := 131) rfl))) (mvT hZ40 (hw _ (List.mem_of_getElem? (i := 132) rfl))) (notFace_of_selects (args := #[]) (mvT hZ40 (hw _ (List.mem_of_getElem? (i := 134) rfl)))) (mvT hZ40 (hw _ (List.mem_of_getElem? (i := 134) rfl))) (mvT hZ40 (hw _ (List.mem_of_getElem? (i := 133) rfl))) (by decide) (backOf (W := 0) (rm24y l Z a0 hw [] o74 (A 2) T74.heap n0 Z74 FO74) hZ40 (hw _ (List.mem_of_getElem? (i := 135) rfl)) (hw _ (List.mem_of_getElem? (i := 89) rfl)) (by decide) (by decide)) q76a q76c (g := (mkF m 441 #[.val (.int p0), .val (.int p1), .val (.int p2), .val (.int p3), .val (.long q4), .second, .val (.int v1), .val (.int v2), .val (.ref a4), .val (.int v6), .val (.int nn8), .val (.int v10), .val (.int v12), .val (.int v13), .val (.int ch15), .val (.int ch17), .val (.int ch19), .val (.int ch21), .val (.int ch23), .val (.int ch25), .val (.ref a27), .val (.int (2 : Int32)), .val (.ref o74), .val (.ref (A 2))] [(.ref o74)])) rfl (by rw [hml]; rfl) (Steps.refl _) (argsL := []) (rest := []) (lenOf pd_11 rfl) rfl (by show 2 * 0 + _ ≤ _; exact Nat.le_of_eq rfl) (hb hby at_441) (fun _ _ => ⟨rfl, e75, (by decide : 14 + 0 ≤ _), (by decide : 117 + 0 ≤ _)⟩)
                          dsimp only [Pt.U, Pt.locs, Pt.cells, Pt.slots] at X76 l76 y76 z76 st76 hQ76
                          rw [l76, y76, z76] at X76
                          obtain ⟨rfl, N76q, e76⟩ := hQ76
                          have N76 := Fr.app N74 N76q
                          obtain ⟨cq77, kq77, q77a, q77b, q77c⟩ := isOf hZ40 e76 EO74
                          obtain ⟨_, _, ⟨T77, L77, k77, n77⟩, -, X77, ⟨Lc77, hQ77, l77, y77, z77⟩, st77⟩ := X76.virtualBack hx (y := (⟨"java/util/Optional", "get", "()Ljava/lang/Object;"⟩ : MethodName)) (z := (⟨"java/util/Optional", "get", "()Ljava/lang/Object;"⟩ : MethodName)) hown40 (mvT hZ40 (hw _ (List.mem_of_getElem? (i := 136) rfl))) (mvT hZ40 (hw _ (List.mem_of_getElem? (i := 137) rfl))) (notFace_of_selects (args := #[]) (mvT hZ40 (hw _ (List.mem_of_getElem? (i := 139) rfl)))) (mvT hZ40 (hw _ (List.mem_of_getElem? (i := 139) rfl))) (mvT hZ40 (hw _ (List.mem_of_getElem? (i := 138) rfl))) (by decide) (backOf (W := 0) (rm25 l Z a0 hw [] o74 (A 2) T74.heap n0 Z74 FO74) hZ40 (hw _ (List.mem_of_getElem? (i := 140) rfl)) (hw _ (List.mem_of_getElem? (i := 89) rfl)) (by decide) (by decide)) q77a q77c (g := (mkF m 449 #[.val (.int p0), .val (.int p1), .val (.int p2), .val (.int p3), .val (.long q4), .second, .val (.int v1), .val (.int v2), .val (.ref a4), .val (.int v6), .val (.int nn8), .val (.int v10), .val (.int v12), .val (.int v13), .val (.int ch15), .val (.int ch17), .val (.int ch19), .val (.int ch21), .val (.int ch23), .val (.int ch25), .val (.ref a27), .val (.int (2 : Int32)), .val (.ref o74), .val (.ref (A 2))] [(.ref o74)])) rfl (by rw [hml]; rfl) (Steps.refl _) (argsL := []) (rest := []) (lenOf pd_12 rfl) rfl (by show 2 * 0 + _ ≤ _; exact Nat.le_of_eq rfl) (hb hby at_449) (fun _ _ => ⟨rfl, e76, (by decide : 14 + 0 ≤ _), (by decide : 117 + 0 ≤ _)⟩)
                          dsimp only [Pt.U, Pt.locs, Pt.cells, Pt.slots] at X77 l77 y77 z77 st77 hQ77
                          rw [l77, y77, z77] at X77
                          obtain ⟨rfl, N77q, e77⟩ := hQ77
                          have N77 := Fr.app N76 N77q
                          obtain ⟨fs, hr, hrun, hended, hEnd⟩ := X77.leaveW hS40 (by rw [e77]; exact (Nat.le_trans hk40 K74q.1)) (v := some (.int (1 : Int32))) (fun h => by rw [Bd.returns] at h; cases h)
                          refine ⟨_, _, ?_, hrun, hended, _, _, rfl, ?_, hEnd.1, hEnd.2.1, hEnd.2.2.1, hEnd.2.2.2.mono (by decide) (by decide)⟩
                          · show Steps p.tables e below (T43.setTop (mkF m 354 #[.val (.int p0), .val (.int p1), .val (.int p2), .val (.int p3), .val (.long q4), .second, .val (.int v1), .val (.int v2), .val (.ref a4), .val (.int v6), .val (.int nn8), .val (.int v10), .val (.int v12), .val (.int v13), .val (.int ch15), .val (.int ch17), .val (.int ch19), .val (.int ch21), .val (.int ch23), .val (.int ch25), .val (.ref a27), .val (.int (-1 : Int32)), .unset, .unset] [])) _
                            refine XS.iconst X43.here hx rfl (hb hby at_354) ?_
                            refine XS.istore X43.here hx rfl (hb hby at_355) rfl (l' := #[.val (.int p0), .val (.int p1), .val (.int p2), .val (.int p3), .val (.long q4), .second, .val (.int v1), .val (.int v2), .val (.ref a4), .val (.int v6), .val (.int nn8), .val (.int v10), .val (.int v12), .val (.int v13), .val (.int ch15), .val (.int ch17), .val (.int ch19), .val (.int ch21), .val (.int ch23), .val (.int ch25), .val (.ref a27), .val (.int (2 : Int32)), .unset, .unset]) rfl ?_
                            show Steps p.tables e below (T43.setTop (mkF m 357 #[.val (.int p0), .val (.int p1), .val (.int p2), .val (.int p3), .val (.long q4), .second, .val (.int v1), .val (.int v2), .val (.ref a4), .val (.int v6), .val (.int nn8), .val (.int v10), .val (.int v12), .val (.int v13), .val (.int ch15), .val (.int ch17), .val (.int ch19), .val (.int ch21), .val (.int ch23), .val (.int ch25), .val (.ref a27), .val (.int (2 : Int32)), .unset, .unset] [])) _
                            refine XS.goto X43.here hx rfl (pc0 := 357) (pc' := 373) rfl (hb hby at_357) (by decide) (by decide) ?_
                            refine XS.aload X43.here hx rfl (hb hby at_373) rfl rfl ?_
                            refine st74 _ ?_
                            show Steps p.tables e below (T74.setTop (mkF m 378 #[.val (.int p0), .val (.int p1), .val (.int p2), .val (.int p3), .val (.long q4), .second, .val (.int v1), .val (.int v2), .val (.ref a4), .val (.int v6), .val (.int nn8), .val (.int v10), .val (.int v12), .val (.int v13), .val (.int ch15), .val (.int ch17), .val (.int ch19), .val (.int ch21), .val (.int ch23), .val (.int ch25), .val (.ref a27), .val (.int (2 : Int32)), .unset, .unset] [(.ref o74)])) _
                            refine XS.astore X74.here hx rfl (hb hby at_378) rfl rfl (l' := #[.val (.int p0), .val (.int p1), .val (.int p2), .val (.int p3), .val (.long q4), .second, .val (.int v1), .val (.int v2), .val (.ref a4), .val (.int v6), .val (.int nn8), .val (.int v10), .val (.int v12), .val (.int v13), .val (.int ch15), .val (.int ch17), .val (.int ch19), .val (.int ch21), .val (.int ch23), .val (.int ch25), .val (.ref a27), .val (.int (2 : Int32)), .val (.ref o74), .unset]) rfl ?_
                            refine XS.iload X74.here hx rfl (hb hby at_380) rfl ?_
                            show Steps p.tables e below (T74.setTop (mkF m 382 #[.val (.int p0), .val (.int p1), .val (.int p2), .val (.int p3), .val (.long q4), .second, .val (.int v1), .val (.int v2), .val (.ref a4), .val (.int v6), .val (.int nn8), .val (.int v10), .val (.int v12), .val (.int v13), .val (.int ch15), .val (.int ch17), .val (.int ch19), .val (.int ch21), .val (.int ch23), .val (.int ch25), .val (.ref a27), .val (.int (2 : Int32)), .val (.ref o74), .unset] [(.int (2 : Int32))])) _
                            refine XS.ifYes X74.here hx rfl (pc0 := 382) (pc' := 399) rfl (hb hby at_382) rfl ((if0 _ _).trans (flt (by decide : ¬ ((2 : Int32) < (0 : Int32)))).2.1) (by decide) (by decide) ?_
                            refine XS.iload X74.here hx rfl (hb hby at_399) rfl ?_
                            show Steps p.tables e below (T74.setTop (mkF m 401 #[.val (.int p0), .val (.int p1), .val (.int p2), .val (.int p3), .val (.long q4), .second, .val (.int v1), .val (.int v2), .val (.ref a4), .val (.int v6), .val (.int nn8), .val (.int v10), .val (.int v12), .val (.int v13), .val (.int ch15), .val (.int ch17), .val (.int ch19), .val (.int ch21), .val (.int ch23), .val (.int ch25), .val (.ref a27), .val (.int (2 : Int32)), .val (.ref o74), .unset] [(.int (2 : Int32))])) _
                            refine XS.ifYes X74.here hx rfl (pc0 := 401) (pc' := 410) rfl (hb hby at_401) rfl ((if0 _ _).trans (feq (by decide : ¬ ((2 : Int32) = (0 : Int32)))).2) (by decide) (by decide) ?_
                            refine XS.iload X74.here hx rfl (hb hby at_410) rfl ?_
                            show Steps p.tables e below (T74.setTop (mkF m 412 #[.val (.int p0), .val (.int p1), .val (.int p2), .val (.int p3), .val (.long q4), .second, .val (.int v1), .val (.int v2), .val (.ref a4), .val (.int v6), .val (.int nn8), .val (.int v10), .val (.int v12), .val (.int v13), .val (.int ch15), .val (.int ch17), .val (.int ch19), .val (.int ch21), .val (.int ch23), .val (.int ch25), .val (.ref a27), .val (.int (2 : Int32)), .val (.ref o74), .unset] [(.int (2 : Int32))])) _
                            refine XS.iconst X74.here hx rfl (hb hby at_412) ?_
                            show Steps p.tables e below (T74.setTop (mkF m 413 #[.val (.int p0), .val (.int p1), .val (.int p2), .val (.int p3), .val (.long q4), .second, .val (.int v1), .val (.int v2), .val (.ref a4), .val (.int v6), .val (.int nn8), .val (.int v10), .val (.int v12), .val (.int v13), .val (.int ch15), .val (.int ch17), .val (.int ch19), .val (.int ch21), .val (.int ch23), .val (.int ch25), .val (.ref a27), .val (.int (2 : Int32)), .val (.ref o74), .unset] [(.int (1 : Int32)), (.int (2 : Int32))])) _
                            refine XS.icmpYes X74.here hx rfl (pc0 := 413) (pc' := 422) rfl (hb hby at_413) rfl (feq (by decide : ¬ ((2 : Int32) = (1 : Int32)))).2 (by decide) (by decide) ?_
                            refine XS.iload X74.here hx rfl (hb hby at_422) rfl ?_
                            refine XS.iconst X74.here hx rfl (hb hby at_424) ?_
                            show Steps p.tables e below (T74.setTop (mkF m 425 #[.val (.int p0), .val (.int p1), .val (.int p2), .val (.int p3), .val (.long q4), .second, .val (.int v1), .val (.int v2), .val (.ref a4), .val (.int v6), .val (.int nn8), .val (.int v10), .val (.int v12), .val (.int v13), .val (.int ch15), .val (.int ch17), .val (.int ch19), .val (.int ch21), .val (.int ch23), .val (.int ch25), .val (.ref a27), .val (.int (2 : Int32)), .val (.ref o74), .unset] [(.int (2 : Int32)), (.int (2 : Int32))])) _
                            refine XS.icmpNo X74.here hx rfl (hb hby at_425) rfl (teq (rfl : (2 : Int32) = (2 : Int32))).2 ?_
                            refine st75 _ ?_
                            show Steps p.tables e below (T75.setTop (mkF m 431 #[.val (.int p0), .val (.int p1), .val (.int p2), .val (.int p3), .val (.long q4), .second, .val (.int v1), .val (.int v2), .val (.ref a4), .val (.int v6), .val (.int nn8), .val (.int v10), .val (.int v12), .val (.int v13), .val (.int ch15), .val (.int ch17), .val (.int ch19), .val (.int ch21), .val (.int ch23), .val (.int ch25), .val (.ref a27), .val (.int (2 : Int32)), .val (.ref o74), .unset] [(.ref (A 2))])) _
                            refine XS.goto X75.here hx rfl (pc0 := 431) (pc' := 437) rfl (hb hby at_431) (by decide) (by decide) ?_
                            show Steps p.tables e below (T75.setTop (mkF m 437 #[.val (.int p0), .val (.int p1), .val (.int p2), .val (.int p3), .val (.long q4), .second, .val (.int v1), .val (.int v2), .val (.ref a4), .val (.int v6), .val (.int nn8), .val (.int v10), .val (.int v12), .val (.int v13), .val (.int ch15), .val (.int ch17), .val (.int ch19), .val (.int ch21), .val (.int ch23), .val (.int ch25), .val (.ref a27), .val (.int (2 : Int32)), .val (.ref o74), .unset] [(.ref (A 2))])) _
                            refine XS.astore X75.here hx rfl (hb hby at_437) rfl rfl (l' := #[.val (.int p0), .val (.int p1), .val (.int p2), .val (.int p3), .val (.long q4), .second, .val (.int v1), .val (.int v2), .val (.ref a4), .val (.int v6), .val (.int nn8), .val (.int v10), .val (.int v12), .val (.int v13), .val (.int ch15), .val (.int ch17), .val (.int ch19), .val (.int ch21), .val (.int ch23), .val (.int ch25), .val (.ref a27), .val (.int (2 : Int32)), .val (.ref o74), .val (.ref (A 2))]) rfl ?_
                            refine XS.aload X75.here hx rfl (hb hby at_439) rfl rfl ?_
                            refine st76.trans ?_
                            show Steps p.tables e below (T76.setTop (mkF m 444 #[.val (.int p0), .val (.int p1), .val (.int p2), .val (.int p3), .val (.long q4), .second, .val (.int v1), .val (.int v2), .val (.ref a4), .val (.int v6), .val (.int nn8), .val (.int v10), .val (.int v12), .val (.int v13), .val (.int ch15), .val (.int ch17), .val (.int ch19), .val (.int ch21), .val (.int ch23), .val (.int ch25), .val (.ref a27), .val (.int (2 : Int32)), .val (.ref o74), .val (.ref (A 2))] [(.int (1 : Int32))])) _
                            refine XS.ifNo X76.here hx rfl (hb hby at_444) rfl ((if0 _ _).trans (feq (by decide : ¬ ((1 : Int32) = (0 : Int32)))).1) ?_
                            refine XS.aload X76.here hx rfl (hb hby at_447) rfl rfl ?_
                            show Steps p.tables e below (T76.setTop (mkF m 449 #[.val (.int p0), .val (.int p1), .val (.int p2), .val (.int p3), .val (.long q4), .second, .val (.int v1), .val (.int v2), .val (.ref a4), .val (.int v6), .val (.int nn8), .val (.int v10), .val (.int v12), .val (.int v13), .val (.int ch15), .val (.int ch17), .val (.int ch19), .val (.int ch21), .val (.int ch23), .val (.int ch25), .val (.ref a27), .val (.int (2 : Int32)), .val (.ref o74), .val (.ref (A 2))] [(.ref o74)])) _
                            refine st77.trans ?_
                            refine XS.aload X77.here hx rfl (hb hby at_452) rfl rfl ?_
                            show Steps p.tables e below (T77.setTop (mkF m 454 #[.val (.int p0), .val (.int p1), .val (.int p2), .val (.int p3), .val (.long q4), .second, .val (.int v1), .val (.int v2), .val (.ref a4), .val (.int v6), .val (.int nn8), .val (.int v10), .val (.int v12), .val (.int v13), .val (.int ch15), .val (.int ch17), .val (.int ch19), .val (.int ch21), .val (.int ch23), .val (.int ch25), .val (.ref a27), .val (.int (2 : Int32)), .val (.ref o74), .val (.ref (A 2))] [(.ref (A 2)), (.ref (A 2))])) _
                            refine Jvm.RoadKit.acmp (g := (mkF m 454 #[.val (.int p0), .val (.int p1), .val (.int p2), .val (.int p3), .val (.long q4), .second, .val (.int v1), .val (.int v2), .val (.ref a4), .val (.int v6), .val (.int nn8), .val (.int v10), .val (.int v12), .val (.int v13), .val (.int ch15), .val (.int ch17), .val (.int ch19), .val (.int ch21), .val (.int ch23), .val (.int ch25), .val (.ref a27), .val (.int (2 : Int32)), .val (.ref o74), .val (.ref (A 2))] [(.ref (A 2)), (.ref (A 2))])) X77 hx rfl rfl rfl (pc0 := 454) (pc' := 457) (same := true) rfl (hb hby at_454) rfl (decide_eq_true rfl) (by decide) (by decide) ?_
                            refine XS.iconst X77.here hx rfl (hb hby at_457) ?_
                            show Steps p.tables e below (T77.setTop (mkF m 458 #[.val (.int p0), .val (.int p1), .val (.int p2), .val (.int p3), .val (.long q4), .second, .val (.int v1), .val (.int v2), .val (.ref a4), .val (.int v6), .val (.int nn8), .val (.int v10), .val (.int v12), .val (.int v13), .val (.int ch15), .val (.int ch17), .val (.int ch19), .val (.int ch21), .val (.int ch23), .val (.int ch25), .val (.ref a27), .val (.int (2 : Int32)), .val (.ref o74), .val (.ref (A 2))] [(.int (1 : Int32))])) _
                            refine XS.goto X77.here hx rfl (pc0 := 458) (pc' := 462) rfl (hb hby at_458) (by decide) (by decide) ?_
                            show Steps p.tables e below (T77.setTop (mkF m 462 #[.val (.int p0), .val (.int p1), .val (.int p2), .val (.int p3), .val (.long q4), .second, .val (.int v1), .val (.int v2), .val (.ref a4), .val (.int v6), .val (.int nn8), .val (.int v10), .val (.int v12), .val (.int v13), .val (.int ch15), .val (.int ch17), .val (.int ch19), .val (.int ch21), .val (.int ch23), .val (.int ch25), .val (.ref a27), .val (.int (2 : Int32)), .val (.ref o74), .val (.ref (A 2))] [(.int (1 : Int32))])) _
                            exact retN X77 hx (t := .boolean) Bd.returns (by simp) (hb hby at_462) hr
                          · show Q0 Z p0 p1 p2 p3 q4 A NM va em kv dv cz fm h0 n0 _ T77.heap _
                            rw [e77]
                            exact ⟨rfl, N77⟩
                      · have K : ∀ target, Steps p.tables e below (T37.setTop (mkF m 338 #[.val (.int p0), .val (.int p1), .val (.int p2), .val (.int p3), .val (.long q4), .second, .val (.int v1), .val (.int v2), .val (.ref a4), .val (.int v6), .val (.int nn8), .val (.int v10), .val (.int v12), .val (.int v13), .val (.int ch15), .val (.int ch17), .val (.int ch19), .val (.int ch21), .val (.int ch23), .val (.int ch25), .val (.ref a27), .val (.int (-1 : Int32)), .unset, .unset] [])) target → Steps p.tables e below (T37.setTop (mkF m 335 #[.val (.int p0), .val (.int p1), .val (.int p2), .val (.int p3), .val (.long q4), .second, .val (.int v1), .val (.int v2), .val (.ref a4), .val (.int v6), .val (.int nn8), .val (.int v10), .val (.int v12), .val (.int v13), .val (.int ch15), .val (.int ch17), .val (.int ch19), .val (.int ch21), .val (.int ch23), .val (.int ch25), .val (.ref a27), .val (.int (-1 : Int32)), .unset, .unset] [(.int (if cs27 = own_c1 then (1 : Int32) else (0 : Int32)))])) target := by
                          intro target kt
                          refine XS.ifNo X37.here hx rfl (hb hby at_335) rfl ((if0 _ _).trans (feq hc335_39).1) ?_
                          exact kt
                        refine Done.of ?_ K
                        have cy78 := (HW.keep0 Kc27)
                        have cy79 := (cy78.ext E28)
                        have cy80 := (cy79.ext E34)
                        obtain ⟨_, _, ⟨T81, L81, k81, n81⟩, -, X81, ⟨Lc81, hQ81, l81, y81, z81⟩, st81⟩ := Jvm.LawKit.callS X37 hx (y := (⟨"com/example/ensyn/ensyn/region/NetClass", "named", "(Ljava/lang/String;)Ljava/util/Optional;"⟩ : MethodName)) hown34 (mvT hZ34 (hw _ (List.mem_of_getElem? (i := 83) rfl))) (mvT hZ34 (hw _ (List.mem_of_getElem? (i := 84) rfl))) (mvT hZ34 (hw _ (List.mem_of_getElem? (i := 85) rfl))) (mvT hZ34 (hw _ (List.mem_of_getElem? (i := 86) rfl))) (by decide) (backOf (W := 0) (rm18 l Z a0 hw [] a27 A NM va em kv dv cs27 cz h34 n0 Z34 cy80 (S_VALUES.ext (cy30.ext E34).2) (S_EMPTY.ext (cy30.ext E34).2) (S_COMPACT_STRINGS.ext (cy30.ext E34).2) hcs cy36) hZ34 (hw _ (List.mem_of_getElem? (i := 86) rfl)) (hw _ (List.mem_of_getElem? (i := 85) rfl)) (by decide) (by decide)) (g := (mkF m 375 #[.val (.int p0), .val (.int p1), .val (.int p2), .val (.int p3), .val (.long q4), .second, .val (.int v1), .val (.int v2), .val (.ref a4), .val (.int v6), .val (.int nn8), .val (.int v10), .val (.int v12), .val (.int v13), .val (.int ch15), .val (.int ch17), .val (.int ch19), .val (.int ch21), .val (.int ch23), .val (.int ch25), .val (.ref a27), .val (.int (1 : Int32)), .unset, .unset] [(.ref a27)])) rfl (by rw [hml]; rfl) (argsL := [(.ref a27)]) (rest := []) (lenOf pd_10 rfl) rfl (by show 2 * 0 + _ ≤ _; exact Nat.le_of_eq rfl) (hb hby at_375) (fun _ _ => ⟨rfl, e37, (by decide : 10 + 2 ≤ _), (by decide : 88 + 5 ≤ _)⟩)
                        dsimp only [Pt.U, Pt.locs, Pt.cells, Pt.slots] at X81 l81 y81 z81 st81 hQ81
                        rw [l81, y81, z81] at X81
                        obtain ⟨o81, rfl, N81q, K81q, EO81, FO81⟩ := hQ81
                        have N81 := Fr.app N37 N81q
                        have Z81 : n0 ≤ T81.heap.size := Nat.le_trans Z34 K81q.1
                        have Kp81 := Kp34.trans K81q (fun x hx => nomatch hx)
                        have OV81 : own_opt A cs27 = (.ref (A 1)) := by
                          unfold own_opt
                          rw [if_neg (fun q => own_if0 hc319_33 q.symm), if_pos (own_if1 hc335_39).symm]
                        rw [OV81] at FO81
                        have cy82 := (cy30.ext E34)
                        have cy83 := (cy82.keep K81q all0)
                        obtain ⟨T84, X84, e84, st84⟩ := getS2 X81 hx hZ34 hown34 (host := "") (Or.inl (hw _ (List.mem_of_getElem? (i := 146) rfl))) Via.refl rfl (S_PURE.ext cy83.2) (g := (mkF m 416 #[.val (.int p0), .val (.int p1), .val (.int p2), .val (.int p3), .val (.long q4), .second, .val (.int v1), .val (.int v2), .val (.ref a4), .val (.int v6), .val (.int nn8), .val (.int v10), .val (.int v12), .val (.int v13), .val (.int ch15), .val (.int ch17), .val (.int ch19), .val (.int ch21), .val (.int ch23), .val (.int ch25), .val (.ref a27), .val (.int (1 : Int32)), .val (.ref o81), .unset] [])) rfl (hb hby at_416)
                        obtain ⟨cq85, kq85, q85a, q85b, q85c⟩ := isOf hZ34 e84 EO81
                        obtain ⟨_, _, ⟨T85, L85, k85, n85⟩, -, X85, ⟨Lc85, hQ85, l85, y85, z85⟩, st85⟩ := X84.virtualBack hx (y := (⟨"java/util/Optional", "isPresent", "()Z"⟩ : MethodName)) (z := (⟨"java/util/Optional", "isPresent", "()Z"⟩ : MethodName)) hown34 (mvT hZ34 (hw _ (List.mem_of_getElem? (i := 131) rfl))) (mvT hZ34 (hw _ (List.mem_of_getElem? (i := 132) rfl))) (notFace_of_selects (args := #[]) (mvT hZ34 (hw _ (List.mem_of_getElem? (i := 134) rfl)))) (mvT hZ34 (hw _ (List.mem_of_getElem? (i := 134) rfl))) (mvT hZ34 (hw _ (List.mem_of_getElem? (i := 133) rfl))) (by decide) (backOf (W := 0) (rm24y l Z a0 hw [] o81 (A 1) T81.heap n0 Z81 FO81) hZ34 (hw _ (List.mem_of_getElem? (i := 135) rfl)) (hw _ (List.mem_of_getElem? (i := 89) rfl)) (by decide) (by decide)) q85a q85c (g := (mkF m 441 #[.val (.int p0), .val (.int p1), .val (.int p2), .val (.int p3), .val (.long q4), .second, .val (.int v1), .val (.int v2), .val (.ref a4), .val (.int v6), .val (.int nn8), .val (.int v10), .val (.int v12), .val (.int v13), .val (.int ch15), .val (.int ch17), .val (.int ch19), .val (.int ch21), .val (.int ch23), .val (.int ch25), .val (.ref a27), .val (.int (1 : Int32)), .val (.ref o81), .val (.ref (A 1))] [(.ref o81)])) rfl (by rw [hml]; rfl) (Steps.refl _) (argsL := []) (rest := []) (lenOf pd_11 rfl) rfl (by show 2 * 0 + _ ≤ _; exact Nat.le_of_eq rfl) (hb hby at_441) (fun _ _ => ⟨rfl, e84, (by decide : 12 + 0 ≤ _), (by decide : 93 + 0 ≤ _)⟩)
                        dsimp only [Pt.U, Pt.locs, Pt.cells, Pt.slots] at X85 l85 y85 z85 st85 hQ85
                        rw [l85, y85, z85] at X85
                        obtain ⟨rfl, N85q, e85⟩ := hQ85
                        have N85 := Fr.app N81 N85q
                        obtain ⟨cq86, kq86, q86a, q86b, q86c⟩ := isOf hZ34 e85 EO81
                        obtain ⟨_, _, ⟨T86, L86, k86, n86⟩, -, X86, ⟨Lc86, hQ86, l86, y86, z86⟩, st86⟩ := X85.virtualBack hx (y := (⟨"java/util/Optional", "get", "()Ljava/lang/Object;"⟩ : MethodName)) (z := (⟨"java/util/Optional", "get", "()Ljava/lang/Object;"⟩ : MethodName)) hown34 (mvT hZ34 (hw _ (List.mem_of_getElem? (i := 136) rfl))) (mvT hZ34 (hw _ (List.mem_of_getElem? (i := 137) rfl))) (notFace_of_selects (args := #[]) (mvT hZ34 (hw _ (List.mem_of_getElem? (i := 139) rfl)))) (mvT hZ34 (hw _ (List.mem_of_getElem? (i := 139) rfl))) (mvT hZ34 (hw _ (List.mem_of_getElem? (i := 138) rfl))) (by decide) (backOf (W := 0) (rm25 l Z a0 hw [] o81 (A 1) T81.heap n0 Z81 FO81) hZ34 (hw _ (List.mem_of_getElem? (i := 140) rfl)) (hw _ (List.mem_of_getElem? (i := 89) rfl)) (by decide) (by decide)) q86a q86c (g := (mkF m 449 #[.val (.int p0), .val (.int p1), .val (.int p2), .val (.int p3), .val (.long q4), .second, .val (.int v1), .val (.int v2), .val (.ref a4), .val (.int v6), .val (.int nn8), .val (.int v10), .val (.int v12), .val (.int v13), .val (.int ch15), .val (.int ch17), .val (.int ch19), .val (.int ch21), .val (.int ch23), .val (.int ch25), .val (.ref a27), .val (.int (1 : Int32)), .val (.ref o81), .val (.ref (A 1))] [(.ref o81)])) rfl (by rw [hml]; rfl) (Steps.refl _) (argsL := []) (rest := []) (lenOf pd_12 rfl) rfl (by show 2 * 0 + _ ≤ _; exact Nat.le_of_eq rfl) (hb hby at_449) (fun _ _ => ⟨rfl, e85, (by decide : 12 + 0 ≤ _), (by decide : 93 + 0 ≤ _)⟩)
                        dsimp only [Pt.U, Pt.locs, Pt.cells, Pt.slots] at X86 l86 y86 z86 st86 hQ86
                        rw [l86, y86, z86] at X86
                        obtain ⟨rfl, N86q, e86⟩ := hQ86
                        have N86 := Fr.app N85 N86q
                        obtain ⟨fs, hr, hrun, hended, hEnd⟩ := X86.leaveW hS34 (by rw [e86]; exact (Nat.le_trans hk34 K81q.1)) (v := some (.int (1 : Int32))) (fun h => by rw [Bd.returns] at h; cases h)
                        refine ⟨_, _, ?_, hrun, hended, _, _, rfl, ?_, hEnd.1, hEnd.2.1, hEnd.2.2.1, hEnd.2.2.2.mono (by decide) (by decide)⟩
                        · refine XS.iconst X37.here hx rfl (hb hby at_338) ?_
                          show Steps p.tables e below (T37.setTop (mkF m 339 #[.val (.int p0), .val (.int p1), .val (.int p2), .val (.int p3), .val (.long q4), .second, .val (.int v1), .val (.int v2), .val (.ref a4), .val (.int v6), .val (.int nn8), .val (.int v10), .val (.int v12), .val (.int v13), .val (.int ch15), .val (.int ch17), .val (.int ch19), .val (.int ch21), .val (.int ch23), .val (.int ch25), .val (.ref a27), .val (.int (-1 : Int32)), .unset, .unset] [(.int (1 : Int32))])) _
                          refine XS.istore X37.here hx rfl (hb hby at_339) rfl (l' := #[.val (.int p0), .val (.int p1), .val (.int p2), .val (.int p3), .val (.long q4), .second, .val (.int v1), .val (.int v2), .val (.ref a4), .val (.int v6), .val (.int nn8), .val (.int v10), .val (.int v12), .val (.int v13), .val (.int ch15), .val (.int ch17), .val (.int ch19), .val (.int ch21), .val (.int ch23), .val (.int ch25), .val (.ref a27), .val (.int (1 : Int32)), .unset, .unset]) rfl ?_
                          show Steps p.tables e below (T37.setTop (mkF m 341 #[.val (.int p0), .val (.int p1), .val (.int p2), .val (.int p3), .val (.long q4), .second, .val (.int v1), .val (.int v2), .val (.ref a4), .val (.int v6), .val (.int nn8), .val (.int v10), .val (.int v12), .val (.int v13), .val (.int ch15), .val (.int ch17), .val (.int ch19), .val (.int ch21), .val (.int ch23), .val (.int ch25), .val (.ref a27), .val (.int (1 : Int32)), .unset, .unset] [])) _
                          refine XS.goto X37.here hx rfl (pc0 := 341) (pc' := 373) rfl (hb hby at_341) (by decide) (by decide) ?_
                          refine XS.aload X37.here hx rfl (hb hby at_373) rfl rfl ?_
                          refine st81 _ ?_
                          refine XS.astore X81.here hx rfl (hb hby at_378) rfl rfl (l' := #[.val (.int p0), .val (.int p1), .val (.int p2), .val (.int p3), .val (.long q4), .second, .val (.int v1), .val (.int v2), .val (.ref a4), .val (.int v6), .val (.int nn8), .val (.int v10), .val (.int v12), .val (.int v13), .val (.int ch15), .val (.int ch17), .val (.int ch19), .val (.int ch21), .val (.int ch23), .val (.int ch25), .val (.ref a27), .val (.int (1 : Int32)), .val (.ref o81), .unset]) rfl ?_
                          show Steps p.tables e below (T81.setTop (mkF m 380 #[.val (.int p0), .val (.int p1), .val (.int p2), .val (.int p3), .val (.long q4), .second, .val (.int v1), .val (.int v2), .val (.ref a4), .val (.int v6), .val (.int nn8), .val (.int v10), .val (.int v12), .val (.int v13), .val (.int ch15), .val (.int ch17), .val (.int ch19), .val (.int ch21), .val (.int ch23), .val (.int ch25), .val (.ref a27), .val (.int (1 : Int32)), .val (.ref o81), .unset] [])) _
                          refine XS.iload X81.here hx rfl (hb hby at_380) rfl ?_
                          show Steps p.tables e below (T81.setTop (mkF m 382 #[.val (.int p0), .val (.int p1), .val (.int p2), .val (.int p3), .val (.long q4), .second, .val (.int v1), .val (.int v2), .val (.ref a4), .val (.int v6), .val (.int nn8), .val (.int v10), .val (.int v12), .val (.int v13), .val (.int ch15), .val (.int ch17), .val (.int ch19), .val (.int ch21), .val (.int ch23), .val (.int ch25), .val (.ref a27), .val (.int (1 : Int32)), .val (.ref o81), .unset] [(.int (1 : Int32))])) _
                          refine XS.ifYes X81.here hx rfl (pc0 := 382) (pc' := 399) rfl (hb hby at_382) rfl ((if0 _ _).trans (flt (by decide : ¬ ((1 : Int32) < (0 : Int32)))).2.1) (by decide) (by decide) ?_
                          refine XS.iload X81.here hx rfl (hb hby at_399) rfl ?_
                          show Steps p.tables e below (T81.setTop (mkF m 401 #[.val (.int p0), .val (.int p1), .val (.int p2), .val (.int p3), .val (.long q4), .second, .val (.int v1), .val (.int v2), .val (.ref a4), .val (.int v6), .val (.int nn8), .val (.int v10), .val (.int v12), .val (.int v13), .val (.int ch15), .val (.int ch17), .val (.int ch19), .val (.int ch21), .val (.int ch23), .val (.int ch25), .val (.ref a27), .val (.int (1 : Int32)), .val (.ref o81), .unset] [(.int (1 : Int32))])) _
                          refine XS.ifYes X81.here hx rfl (pc0 := 401) (pc' := 410) rfl (hb hby at_401) rfl ((if0 _ _).trans (feq (by decide : ¬ ((1 : Int32) = (0 : Int32)))).2) (by decide) (by decide) ?_
                          refine XS.iload X81.here hx rfl (hb hby at_410) rfl ?_
                          refine XS.iconst X81.here hx rfl (hb hby at_412) ?_
                          show Steps p.tables e below (T81.setTop (mkF m 413 #[.val (.int p0), .val (.int p1), .val (.int p2), .val (.int p3), .val (.long q4), .second, .val (.int v1), .val (.int v2), .val (.ref a4), .val (.int v6), .val (.int nn8), .val (.int v10), .val (.int v12), .val (.int v13), .val (.int ch15), .val (.int ch17), .val (.int ch19), .val (.int ch21), .val (.int ch23), .val (.int ch25), .val (.ref a27), .val (.int (1 : Int32)), .val (.ref o81), .unset] [(.int (1 : Int32)), (.int (1 : Int32))])) _
                          refine XS.icmpNo X81.here hx rfl (hb hby at_413) rfl (teq (rfl : (1 : Int32) = (1 : Int32))).2 ?_
                          show Steps p.tables e below (T81.setTop (mkF m 416 #[.val (.int p0), .val (.int p1), .val (.int p2), .val (.int p3), .val (.long q4), .second, .val (.int v1), .val (.int v2), .val (.ref a4), .val (.int v6), .val (.int nn8), .val (.int v10), .val (.int v12), .val (.int v13), .val (.int ch15), .val (.int ch17), .val (.int ch19), .val (.int ch21), .val (.int ch23), .val (.int ch25), .val (.ref a27), .val (.int (1 : Int32)), .val (.ref o81), .unset] [])) _
                          refine st84 _ ?_
                          show Steps p.tables e below (T84.setTop (mkF m 419 #[.val (.int p0), .val (.int p1), .val (.int p2), .val (.int p3), .val (.long q4), .second, .val (.int v1), .val (.int v2), .val (.ref a4), .val (.int v6), .val (.int nn8), .val (.int v10), .val (.int v12), .val (.int v13), .val (.int ch15), .val (.int ch17), .val (.int ch19), .val (.int ch21), .val (.int ch23), .val (.int ch25), .val (.ref a27), .val (.int (1 : Int32)), .val (.ref o81), .unset] [(.ref (A 1))])) _
                          refine XS.goto X84.here hx rfl (pc0 := 419) (pc' := 437) rfl (hb hby at_419) (by decide) (by decide) ?_
                          refine XS.astore X84.here hx rfl (hb hby at_437) rfl rfl (l' := #[.val (.int p0), .val (.int p1), .val (.int p2), .val (.int p3), .val (.long q4), .second, .val (.int v1), .val (.int v2), .val (.ref a4), .val (.int v6), .val (.int nn8), .val (.int v10), .val (.int v12), .val (.int v13), .val (.int ch15), .val (.int ch17), .val (.int ch19), .val (.int ch21), .val (.int ch23), .val (.int ch25), .val (.ref a27), .val (.int (1 : Int32)), .val (.ref o81), .val (.ref (A 1))]) rfl ?_
                          refine XS.aload X84.here hx rfl (hb hby at_439) rfl rfl ?_
                          refine st85.trans ?_
                          show Steps p.tables e below (T85.setTop (mkF m 444 #[.val (.int p0), .val (.int p1), .val (.int p2), .val (.int p3), .val (.long q4), .second, .val (.int v1), .val (.int v2), .val (.ref a4), .val (.int v6), .val (.int nn8), .val (.int v10), .val (.int v12), .val (.int v13), .val (.int ch15), .val (.int ch17), .val (.int ch19), .val (.int ch21), .val (.int ch23), .val (.int ch25), .val (.ref a27), .val (.int (1 : Int32)), .val (.ref o81), .val (.ref (A 1))] [(.int (1 : Int32))])) _
                          refine XS.ifNo X85.here hx rfl (hb hby at_444) rfl ((if0 _ _).trans (feq (by decide : ¬ ((1 : Int32) = (0 : Int32)))).1) ?_
                          show Steps p.tables e below (T85.setTop (mkF m 447 #[.val (.int p0), .val (.int p1), .val (.int p2), .val (.int p3), .val (.long q4), .second, .val (.int v1), .val (.int v2), .val (.ref a4), .val (.int v6), .val (.int nn8), .val (.int v10), .val (.int v12), .val (.int v13), .val (.int ch15), .val (.int ch17), .val (.int ch19), .val (.int ch21), .val (.int ch23), .val (.int ch25), .val (.ref a27), .val (.int (1 : Int32)), .val (.ref o81), .val (.ref (A 1))] [])) _
                          refine XS.aload X85.here hx rfl (hb hby at_447) rfl rfl ?_
                          refine st86.trans ?_
                          refine XS.aload X86.here hx rfl (hb hby at_452) rfl rfl ?_
                          show Steps p.tables e below (T86.setTop (mkF m 454 #[.val (.int p0), .val (.int p1), .val (.int p2), .val (.int p3), .val (.long q4), .second, .val (.int v1), .val (.int v2), .val (.ref a4), .val (.int v6), .val (.int nn8), .val (.int v10), .val (.int v12), .val (.int v13), .val (.int ch15), .val (.int ch17), .val (.int ch19), .val (.int ch21), .val (.int ch23), .val (.int ch25), .val (.ref a27), .val (.int (1 : Int32)), .val (.ref o81), .val (.ref (A 1))] [(.ref (A 1)), (.ref (A 1))])) _
                          refine Jvm.RoadKit.acmp (g := (mkF m 454 #[.val (.int p0), .val (.int p1), .val (.int p2), .val (.int p3), .val (.long q4), .second, .val (.int v1), .val (.int v2), .val (.ref a4), .val (.int v6), .val (.int nn8), .val (.int v10), .val (.int v12), .val (.int v13), .val (.int ch15), .val (.int ch17), .val (.int ch19), .val (.int ch21), .val (.int ch23), .val (.int ch25), .val (.ref a27), .val (.int (1 : Int32)), .val (.ref o81), .val (.ref (A 1))] [(.ref (A 1)), (.ref (A 1))])) X86 hx rfl rfl rfl (pc0 := 454) (pc' := 457) (same := true) rfl (hb hby at_454) rfl (decide_eq_true rfl) (by decide) (by decide) ?_
                          refine XS.iconst X86.here hx rfl (hb hby at_457) ?_
                          show Steps p.tables e below (T86.setTop (mkF m 458 #[.val (.int p0), .val (.int p1), .val (.int p2), .val (.int p3), .val (.long q4), .second, .val (.int v1), .val (.int v2), .val (.ref a4), .val (.int v6), .val (.int nn8), .val (.int v10), .val (.int v12), .val (.int v13), .val (.int ch15), .val (.int ch17), .val (.int ch19), .val (.int ch21), .val (.int ch23), .val (.int ch25), .val (.ref a27), .val (.int (1 : Int32)), .val (.ref o81), .val (.ref (A 1))] [(.int (1 : Int32))])) _
                          refine XS.goto X86.here hx rfl (pc0 := 458) (pc' := 462) rfl (hb hby at_458) (by decide) (by decide) ?_
                          show Steps p.tables e below (T86.setTop (mkF m 462 #[.val (.int p0), .val (.int p1), .val (.int p2), .val (.int p3), .val (.long q4), .second, .val (.int v1), .val (.int v2), .val (.ref a4), .val (.int v6), .val (.int nn8), .val (.int v10), .val (.int v12), .val (.int v13), .val (.int ch15), .val (.int ch17), .val (.int ch19), .val (.int ch21), .val (.int ch23), .val (.int ch25), .val (.ref a27), .val (.int (1 : Int32)), .val (.ref o81), .val (.ref (A 1))] [(.int (1 : Int32))])) _
                          exact retN X86 hx (t := .boolean) Bd.returns (by simp) (hb hby at_462) hr
                        · show Q0 Z p0 p1 p2 p3 q4 A NM va em kv dv cz fm h0 n0 _ T86.heap _
                          rw [e86]
                          exact ⟨rfl, N86⟩
                    · have K : ∀ target, Steps p.tables e below (T31.setTop (mkF m 322 #[.val (.int p0), .val (.int p1), .val (.int p2), .val (.int p3), .val (.long q4), .second, .val (.int v1), .val (.int v2), .val (.ref a4), .val (.int v6), .val (.int nn8), .val (.int v10), .val (.int v12), .val (.int v13), .val (.int ch15), .val (.int ch17), .val (.int ch19), .val (.int ch21), .val (.int ch23), .val (.int ch25), .val (.ref a27), .val (.int (-1 : Int32)), .unset, .unset] [])) target → Steps p.tables e below (T31.setTop (mkF m 319 #[.val (.int p0), .val (.int p1), .val (.int p2), .val (.int p3), .val (.long q4), .second, .val (.int v1), .val (.int v2), .val (.ref a4), .val (.int v6), .val (.int nn8), .val (.int v10), .val (.int v12), .val (.int v13), .val (.int ch15), .val (.int ch17), .val (.int ch19), .val (.int ch21), .val (.int ch23), .val (.int ch25), .val (.ref a27), .val (.int (-1 : Int32)), .unset, .unset] [(.int (if cs27 = own_c0 then (1 : Int32) else (0 : Int32)))])) target := by
                        intro target kt
                        refine XS.ifNo X31.here hx rfl (hb hby at_319) rfl ((if0 _ _).trans (feq hc319_33).1) ?_
                        exact kt
                      refine Done.of ?_ K
                      have cy87 := (HW.keep0 Kc27)
                      have cy88 := (cy87.ext E28)
                      obtain ⟨_, _, ⟨T89, L89, k89, n89⟩, -, X89, ⟨Lc89, hQ89, l89, y89, z89⟩, st89⟩ := Jvm.LawKit.callS X31 hx (y := (⟨"com/example/ensyn/ensyn/region/NetClass", "named", "(Ljava/lang/String;)Ljava/util/Optional;"⟩ : MethodName)) hown28 (mvT hZ28 (hw _ (List.mem_of_getElem? (i := 83) rfl))) (mvT hZ28 (hw _ (List.mem_of_getElem? (i := 84) rfl))) (mvT hZ28 (hw _ (List.mem_of_getElem? (i := 85) rfl))) (mvT hZ28 (hw _ (List.mem_of_getElem? (i := 86) rfl))) (by decide) (backOf (W := 0) (rm18 l Z a0 hw [] a27 A NM va em kv dv cs27 cz h28 n0 Z28 cy88 (S_VALUES.ext cy30.2) (S_EMPTY.ext cy30.2) (S_COMPACT_STRINGS.ext cy30.2) hcs (hT27.ext E28)) hZ28 (hw _ (List.mem_of_getElem? (i := 86) rfl)) (hw _ (List.mem_of_getElem? (i := 85) rfl)) (by decide) (by decide)) (g := (mkF m 375 #[.val (.int p0), .val (.int p1), .val (.int p2), .val (.int p3), .val (.long q4), .second, .val (.int v1), .val (.int v2), .val (.ref a4), .val (.int v6), .val (.int nn8), .val (.int v10), .val (.int v12), .val (.int v13), .val (.int ch15), .val (.int ch17), .val (.int ch19), .val (.int ch21), .val (.int ch23), .val (.int ch25), .val (.ref a27), .val (.int (0 : Int32)), .unset, .unset] [(.ref a27)])) rfl (by rw [hml]; rfl) (argsL := [(.ref a27)]) (rest := []) (lenOf pd_10 rfl) rfl (by show 2 * 0 + _ ≤ _; exact Nat.le_of_eq rfl) (hb hby at_375) (fun _ _ => ⟨rfl, e31, (by decide : 8 + 2 ≤ _), (by decide : 64 + 5 ≤ _)⟩)
                      dsimp only [Pt.U, Pt.locs, Pt.cells, Pt.slots] at X89 l89 y89 z89 st89 hQ89
                      rw [l89, y89, z89] at X89
                      obtain ⟨o89, rfl, N89q, K89q, EO89, FO89⟩ := hQ89
                      have N89 := Fr.app N31 N89q
                      have Z89 : n0 ≤ T89.heap.size := Nat.le_trans Z28 K89q.1
                      have Kp89 := Kp28.trans K89q (fun x hx => nomatch hx)
                      have OV89 : own_opt A cs27 = (.ref (A 0)) := by
                        unfold own_opt
                        rw [if_pos (own_if1 hc319_33).symm]
                      rw [OV89] at FO89
                      obtain ⟨T90, X90, e90, st90⟩ := getS2 X89 hx hZ28 hown28 (host := "") (Or.inl (hw _ (List.mem_of_getElem? (i := 130) rfl))) Via.refl rfl (S_PLAIN.ext (cy30.keep K89q all0).2) (g := (mkF m 404 #[.val (.int p0), .val (.int p1), .val (.int p2), .val (.int p3), .val (.long q4), .second, .val (.int v1), .val (.int v2), .val (.ref a4), .val (.int v6), .val (.int nn8), .val (.int v10), .val (.int v12), .val (.int v13), .val (.int ch15), .val (.int ch17), .val (.int ch19), .val (.int ch21), .val (.int ch23), .val (.int ch25), .val (.ref a27), .val (.int (0 : Int32)), .val (.ref o89), .unset] [])) rfl (hb hby at_404)
                      obtain ⟨cq91, kq91, q91a, q91b, q91c⟩ := isOf hZ28 e90 EO89
                      obtain ⟨_, _, ⟨T91, L91, k91, n91⟩, -, X91, ⟨Lc91, hQ91, l91, y91, z91⟩, st91⟩ := X90.virtualBack hx (y := (⟨"java/util/Optional", "isPresent", "()Z"⟩ : MethodName)) (z := (⟨"java/util/Optional", "isPresent", "()Z"⟩ : MethodName)) hown28 (mvT hZ28 (hw _ (List.mem_of_getElem? (i := 131) rfl))) (mvT hZ28 (hw _ (List.mem_of_getElem? (i := 132) rfl))) (notFace_of_selects (args := #[]) (mvT hZ28 (hw _ (List.mem_of_getElem? (i := 134) rfl)))) (mvT hZ28 (hw _ (List.mem_of_getElem? (i := 134) rfl))) (mvT hZ28 (hw _ (List.mem_of_getElem? (i := 133) rfl))) (by decide) (backOf (W := 0) (rm24y l Z a0 hw [] o89 (A 0) T89.heap n0 Z89 FO89) hZ28 (hw _ (List.mem_of_getElem? (i := 135) rfl)) (hw _ (List.mem_of_getElem? (i := 89) rfl)) (by decide) (by decide)) q91a q91c (g := (mkF m 441 #[.val (.int p0), .val (.int p1), .val (.int p2), .val (.int p3), .val (.long q4), .second, .val (.int v1), .val (.int v2), .val (.ref a4), .val (.int v6), .val (.int nn8), .val (.int v10), .val (.int v12), .val (.int v13), .val (.int ch15), .val (.int ch17), .val (.int ch19), .val (.int ch21), .val (.int ch23), .val (.int ch25), .val (.ref a27), .val (.int (0 : Int32)), .val (.ref o89), .val (.ref (A 0))] [(.ref o89)])) rfl (by rw [hml]; rfl) (Steps.refl _) (argsL := []) (rest := []) (lenOf pd_11 rfl) rfl (by show 2 * 0 + _ ≤ _; exact Nat.le_of_eq rfl) (hb hby at_441) (fun _ _ => ⟨rfl, e90, (by decide : 10 + 0 ≤ _), (by decide : 69 + 0 ≤ _)⟩)
                      dsimp only [Pt.U, Pt.locs, Pt.cells, Pt.slots] at X91 l91 y91 z91 st91 hQ91
                      rw [l91, y91, z91] at X91
                      obtain ⟨rfl, N91q, e91⟩ := hQ91
                      have N91 := Fr.app N89 N91q
                      obtain ⟨cq92, kq92, q92a, q92b, q92c⟩ := isOf hZ28 e91 EO89
                      obtain ⟨_, _, ⟨T92, L92, k92, n92⟩, -, X92, ⟨Lc92, hQ92, l92, y92, z92⟩, st92⟩ := X91.virtualBack hx (y := (⟨"java/util/Optional", "get", "()Ljava/lang/Object;"⟩ : MethodName)) (z := (⟨"java/util/Optional", "get", "()Ljava/lang/Object;"⟩ : MethodName)) hown28 (mvT hZ28 (hw _ (List.mem_of_getElem? (i := 136) rfl))) (mvT hZ28 (hw _ (List.mem_of_getElem? (i := 137) rfl))) (notFace_of_selects (args := #[]) (mvT hZ28 (hw _ (List.mem_of_getElem? (i := 139) rfl)))) (mvT hZ28 (hw _ (List.mem_of_getElem? (i := 139) rfl))) (mvT hZ28 (hw _ (List.mem_of_getElem? (i := 138) rfl))) (by decide) (backOf (W := 0) (rm25 l Z a0 hw [] o89 (A 0) T89.heap n0 Z89 FO89) hZ28 (hw _ (List.mem_of_getElem? (i := 140) rfl)) (hw _ (List.mem_of_getElem? (i := 89) rfl)) (by decide) (by decide)) q92a q92c (g := (mkF m 449 #[.val (.int p0), .val (.int p1), .val (.int p2), .val (.int p3), .val (.long q4), .second, .val (.int v1), .val (.int v2), .val (.ref a4), .val (.int v6), .val (.int nn8), .val (.int v10), .val (.int v12), .val (.int v13), .val (.int ch15), .val (.int ch17), .val (.int ch19), .val (.int ch21), .val (.int ch23), .val (.int ch25), .val (.ref a27), .val (.int (0 : Int32)), .val (.ref o89), .val (.ref (A 0))] [(.ref o89)])) rfl (by rw [hml]; rfl) (Steps.refl _) (argsL := []) (rest := []) (lenOf pd_12 rfl) rfl (by show 2 * 0 + _ ≤ _; exact Nat.le_of_eq rfl) (hb hby at_449) (fun _ _ => ⟨rfl, e91, (by decide : 10 + 0 ≤ _), (by decide : 69 + 0 ≤ _)⟩)
                      dsimp only [Pt.U, Pt.locs, Pt.cells, Pt.slots] at X92 l92 y92 z92 st92 hQ92
                      rw [l92, y92, z92] at X92
                      obtain ⟨rfl, N92q, e92⟩ := hQ92
                      have N92 := Fr.app N91 N92q
                      obtain ⟨fs, hr, hrun, hended, hEnd⟩ := X92.leaveW hS28 (by rw [e92]; exact (Nat.le_trans hk28 K89q.1)) (v := some (.int (1 : Int32))) (fun h => by rw [Bd.returns] at h; cases h)
                      refine ⟨_, _, ?_, hrun, hended, _, _, rfl, ?_, hEnd.1, hEnd.2.1, hEnd.2.2.1, hEnd.2.2.2.mono (by decide) (by decide)⟩
                      · show Steps p.tables e below (T31.setTop (mkF m 322 #[.val (.int p0), .val (.int p1), .val (.int p2), .val (.int p3), .val (.long q4), .second, .val (.int v1), .val (.int v2), .val (.ref a4), .val (.int v6), .val (.int nn8), .val (.int v10), .val (.int v12), .val (.int v13), .val (.int ch15), .val (.int ch17), .val (.int ch19), .val (.int ch21), .val (.int ch23), .val (.int ch25), .val (.ref a27), .val (.int (-1 : Int32)), .unset, .unset] [])) _
                        refine XS.iconst X31.here hx rfl (hb hby at_322) ?_
                        refine XS.istore X31.here hx rfl (hb hby at_323) rfl (l' := #[.val (.int p0), .val (.int p1), .val (.int p2), .val (.int p3), .val (.long q4), .second, .val (.int v1), .val (.int v2), .val (.ref a4), .val (.int v6), .val (.int nn8), .val (.int v10), .val (.int v12), .val (.int v13), .val (.int ch15), .val (.int ch17), .val (.int ch19), .val (.int ch21), .val (.int ch23), .val (.int ch25), .val (.ref a27), .val (.int (0 : Int32)), .unset, .unset]) rfl ?_
                        show Steps p.tables e below (T31.setTop (mkF m 325 #[.val (.int p0), .val (.int p1), .val (.int p2), .val (.int p3), .val (.long q4), .second, .val (.int v1), .val (.int v2), .val (.ref a4), .val (.int v6), .val (.int nn8), .val (.int v10), .val (.int v12), .val (.int v13), .val (.int ch15), .val (.int ch17), .val (.int ch19), .val (.int ch21), .val (.int ch23), .val (.int ch25), .val (.ref a27), .val (.int (0 : Int32)), .unset, .unset] [])) _
                        refine XS.goto X31.here hx rfl (pc0 := 325) (pc' := 373) rfl (hb hby at_325) (by decide) (by decide) ?_
                        refine XS.aload X31.here hx rfl (hb hby at_373) rfl rfl ?_
                        refine st89 _ ?_
                        show Steps p.tables e below (T89.setTop (mkF m 378 #[.val (.int p0), .val (.int p1), .val (.int p2), .val (.int p3), .val (.long q4), .second, .val (.int v1), .val (.int v2), .val (.ref a4), .val (.int v6), .val (.int nn8), .val (.int v10), .val (.int v12), .val (.int v13), .val (.int ch15), .val (.int ch17), .val (.int ch19), .val (.int ch21), .val (.int ch23), .val (.int ch25), .val (.ref a27), .val (.int (0 : Int32)), .unset, .unset] [(.ref o89)])) _
                        refine XS.astore X89.here hx rfl (hb hby at_378) rfl rfl (l' := #[.val (.int p0), .val (.int p1), .val (.int p2), .val (.int p3), .val (.long q4), .second, .val (.int v1), .val (.int v2), .val (.ref a4), .val (.int v6), .val (.int nn8), .val (.int v10), .val (.int v12), .val (.int v13), .val (.int ch15), .val (.int ch17), .val (.int ch19), .val (.int ch21), .val (.int ch23), .val (.int ch25), .val (.ref a27), .val (.int (0 : Int32)), .val (.ref o89), .unset]) rfl ?_
                        refine XS.iload X89.here hx rfl (hb hby at_380) rfl ?_
                        show Steps p.tables e below (T89.setTop (mkF m 382 #[.val (.int p0), .val (.int p1), .val (.int p2), .val (.int p3), .val (.long q4), .second, .val (.int v1), .val (.int v2), .val (.ref a4), .val (.int v6), .val (.int nn8), .val (.int v10), .val (.int v12), .val (.int v13), .val (.int ch15), .val (.int ch17), .val (.int ch19), .val (.int ch21), .val (.int ch23), .val (.int ch25), .val (.ref a27), .val (.int (0 : Int32)), .val (.ref o89), .unset] [(.int (0 : Int32))])) _
                        refine XS.ifYes X89.here hx rfl (pc0 := 382) (pc' := 399) rfl (hb hby at_382) rfl ((if0 _ _).trans (flt (by decide : ¬ ((0 : Int32) < (0 : Int32)))).2.1) (by decide) (by decide) ?_
                        refine XS.iload X89.here hx rfl (hb hby at_399) rfl ?_
                        show Steps p.tables e below (T89.setTop (mkF m 401 #[.val (.int p0), .val (.int p1), .val (.int p2), .val (.int p3), .val (.long q4), .second, .val (.int v1), .val (.int v2), .val (.ref a4), .val (.int v6), .val (.int nn8), .val (.int v10), .val (.int v12), .val (.int v13), .val (.int ch15), .val (.int ch17), .val (.int ch19), .val (.int ch21), .val (.int ch23), .val (.int ch25), .val (.ref a27), .val (.int (0 : Int32)), .val (.ref o89), .unset] [(.int (0 : Int32))])) _
                        refine XS.ifNo X89.here hx rfl (hb hby at_401) rfl ((if0 _ _).trans (teq (rfl : (0 : Int32) = (0 : Int32))).2) ?_
                        refine st90 _ ?_
                        show Steps p.tables e below (T90.setTop (mkF m 407 #[.val (.int p0), .val (.int p1), .val (.int p2), .val (.int p3), .val (.long q4), .second, .val (.int v1), .val (.int v2), .val (.ref a4), .val (.int v6), .val (.int nn8), .val (.int v10), .val (.int v12), .val (.int v13), .val (.int ch15), .val (.int ch17), .val (.int ch19), .val (.int ch21), .val (.int ch23), .val (.int ch25), .val (.ref a27), .val (.int (0 : Int32)), .val (.ref o89), .unset] [(.ref (A 0))])) _
                        refine XS.goto X90.here hx rfl (pc0 := 407) (pc' := 437) rfl (hb hby at_407) (by decide) (by decide) ?_
                        show Steps p.tables e below (T90.setTop (mkF m 437 #[.val (.int p0), .val (.int p1), .val (.int p2), .val (.int p3), .val (.long q4), .second, .val (.int v1), .val (.int v2), .val (.ref a4), .val (.int v6), .val (.int nn8), .val (.int v10), .val (.int v12), .val (.int v13), .val (.int ch15), .val (.int ch17), .val (.int ch19), .val (.int ch21), .val (.int ch23), .val (.int ch25), .val (.ref a27), .val (.int (0 : Int32)), .val (.ref o89), .unset] [(.ref (A 0))])) _
                        refine XS.astore X90.here hx rfl (hb hby at_437) rfl rfl (l' := #[.val (.int p0), .val (.int p1), .val (.int p2), .val (.int p3), .val (.long q4), .second, .val (.int v1), .val (.int v2), .val (.ref a4), .val (.int v6), .val (.int nn8), .val (.int v10), .val (.int v12), .val (.int v13), .val (.int ch15), .val (.int ch17), .val (.int ch19), .val (.int ch21), .val (.int ch23), .val (.int ch25), .val (.ref a27), .val (.int (0 : Int32)), .val (.ref o89), .val (.ref (A 0))]) rfl ?_
                        refine XS.aload X90.here hx rfl (hb hby at_439) rfl rfl ?_
                        refine st91.trans ?_
                        show Steps p.tables e below (T91.setTop (mkF m 444 #[.val (.int p0), .val (.int p1), .val (.int p2), .val (.int p3), .val (.long q4), .second, .val (.int v1), .val (.int v2), .val (.ref a4), .val (.int v6), .val (.int nn8), .val (.int v10), .val (.int v12), .val (.int v13), .val (.int ch15), .val (.int ch17), .val (.int ch19), .val (.int ch21), .val (.int ch23), .val (.int ch25), .val (.ref a27), .val (.int (0 : Int32)), .val (.ref o89), .val (.ref (A 0))] [(.int (1 : Int32))])) _
                        refine XS.ifNo X91.here hx rfl (hb hby at_444) rfl ((if0 _ _).trans (feq (by decide : ¬ ((1 : Int32) = (0 : Int32)))).1) ?_
                        refine XS.aload X91.here hx rfl (hb hby at_447) rfl rfl ?_
                        show Steps p.tables e below (T91.setTop (mkF m 449 #[.val (.int p0), .val (.int p1), .val (.int p2), .val (.int p3), .val (.long q4), .second, .val (.int v1), .val (.int v2), .val (.ref a4), .val (.int v6), .val (.int nn8), .val (.int v10), .val (.int v12), .val (.int v13), .val (.int ch15), .val (.int ch17), .val (.int ch19), .val (.int ch21), .val (.int ch23), .val (.int ch25), .val (.ref a27), .val (.int (0 : Int32)), .val (.ref o89), .val (.ref (A 0))] [(.ref o89)])) _
                        refine st92.trans ?_
                        refine XS.aload X92.here hx rfl (hb hby at_452) rfl rfl ?_
                        show Steps p.tables e below (T92.setTop (mkF m 454 #[.val (.int p0), .val (.int p1), .val (.int p2), .val (.int p3), .val (.long q4), .second, .val (.int v1), .val (.int v2), .val (.ref a4), .val (.int v6), .val (.int nn8), .val (.int v10), .val (.int v12), .val (.int v13), .val (.int ch15), .val (.int ch17), .val (.int ch19), .val (.int ch21), .val (.int ch23), .val (.int ch25), .val (.ref a27), .val (.int (0 : Int32)), .val (.ref o89), .val (.ref (A 0))] [(.ref (A 0)), (.ref (A 0))])) _
                        refine Jvm.RoadKit.acmp (g := (mkF m 454 #[.val (.int p0), .val (.int p1), .val (.int p2), .val (.int p3), .val (.long q4), .second, .val (.int v1), .val (.int v2), .val (.ref a4), .val (.int v6), .val (.int nn8), .val (.int v10), .val (.int v12), .val (.int v13), .val (.int ch15), .val (.int ch17), .val (.int ch19), .val (.int ch21), .val (.int ch23), .val (.int ch25), .val (.ref a27), .val (.int (0 : Int32)), .val (.ref o89), .val (.ref (A 0))] [(.ref (A 0)), (.ref (A 0))])) X92 hx rfl rfl rfl (pc0 := 454) (pc' := 457) (same := true) rfl (hb hby at_454) rfl (decide_eq_true rfl) (by decide) (by decide) ?_
                        refine XS.iconst X92.here hx rfl (hb hby at_457) ?_
                        show Steps p.tables e below (T92.setTop (mkF m 458 #[.val (.int p0), .val (.int p1), .val (.int p2), .val (.int p3), .val (.long q4), .second, .val (.int v1), .val (.int v2), .val (.ref a4), .val (.int v6), .val (.int nn8), .val (.int v10), .val (.int v12), .val (.int v13), .val (.int ch15), .val (.int ch17), .val (.int ch19), .val (.int ch21), .val (.int ch23), .val (.int ch25), .val (.ref a27), .val (.int (0 : Int32)), .val (.ref o89), .val (.ref (A 0))] [(.int (1 : Int32))])) _
                        refine XS.goto X92.here hx rfl (pc0 := 458) (pc' := 462) rfl (hb hby at_458) (by decide) (by decide) ?_
                        show Steps p.tables e below (T92.setTop (mkF m 462 #[.val (.int p0), .val (.int p1), .val (.int p2), .val (.int p3), .val (.long q4), .second, .val (.int v1), .val (.int v2), .val (.ref a4), .val (.int v6), .val (.int nn8), .val (.int v10), .val (.int v12), .val (.int v13), .val (.int ch15), .val (.int ch17), .val (.int ch19), .val (.int ch21), .val (.int ch23), .val (.int ch25), .val (.ref a27), .val (.int (0 : Int32)), .val (.ref o89), .val (.ref (A 0))] [(.int (1 : Int32))])) _
                        exact retN X92 hx (t := .boolean) Bd.returns (by simp) (hb hby at_462) hr
                      · show Q0 Z p0 p1 p2 p3 q4 A NM va em kv dv cz fm h0 n0 _ T92.heap _
                        rw [e92]
                        exact ⟨rfl, N92⟩
                  · intro cut27
                    by_cases hz0 : nn8 = (0 : Int32)
                    · skip
                      obtain ⟨_, _, ⟨T93, L93, k93, n93⟩, -, Xq93, hSq93, hgq93, ⟨Lc93, hQ93, l93, y93, z93, cr93⟩, st93⟩ := callSS X25 hx (y := (⟨"com/example/ensyn/ensyn/region/NetClassNamedPinLaw", "make", "(ICCCCCC)Ljava/lang/String;"⟩ : MethodName)) hown4 (mvT hZ4 (hw _ (List.mem_of_getElem? (i := 49) rfl))) (mvT hZ4 (hw _ (List.mem_of_getElem? (i := 50) rfl))) (mvT hZ4 (hw _ (List.mem_of_getElem? (i := 24) rfl))) (mvT hZ4 (hw _ (List.mem_of_getElem? (i := 51) rfl))) (by decide) (own_backWR (W := 0) (rm9e l Z a0 hw [] nn8 ch15 ch17 ch19 ch21 ch23 ch25 T4.heap T4.heap.size (Nat.le_refl _) hz0) hZ4 (hw _ (List.mem_of_getElem? (i := 51) rfl)) (hw _ (List.mem_of_getElem? (i := 24) rfl)) (by decide) (by decide) hEW (own_OC_now hC4)) (g := (mkF m 304 #[.val (.int p0), .val (.int p1), .val (.int p2), .val (.int p3), .val (.long q4), .second, .val (.int v1), .val (.int v2), .val (.ref a4), .val (.int v6), .val (.int nn8), .val (.int v10), .val (.int v12), .val (.int v13), .val (.int ch15), .val (.int ch17), .val (.int ch19), .val (.int ch21), .val (.int ch23), .val (.int ch25), .unset, .unset, .unset, .unset] [(.int ch25), (.int ch23), (.int ch21), (.int ch19), (.int ch17), (.int ch15), (.int nn8)])) rfl (by rw [hml]; rfl) (argsL := [(.int nn8), (.int ch15), (.int ch17), (.int ch19), (.int ch21), (.int ch23), (.int ch25)]) (rest := []) (lenOf pd_13 rfl) rfl (by show 2 * 0 + _ ≤ _; exact Nat.le_of_eq rfl) (hb hby at_304) (fun _ _ => ⟨rfl, e25, (by decide : 2 + 4 ≤ _), (by decide : 24 + 16 ≤ _)⟩)
                      dsimp only [Pt.U, Pt.locs, Pt.cells, Pt.slots] at Xq93 hSq93 hgq93 l93 y93 z93 st93 hQ93 cr93
                      rw [l93, y93, z93] at Xq93
                      have X93 : Stand p l e _ (s.setVm T93.vm) m _ below meth c T93 _ _ _ := Xq93
                      have hS93 := foldS hS4 (by rw [e25]; exact hk4) hSq93 hgq93
                      have hZ93 : Z.Warmed39 (s.setVm T93.vm).vm := State.Warmed39.trans (t := (s.setVm vm4)) hZ4 hSq93.1
                      have hown93 : (s.setVm T93.vm).vm.findClass "com/example/ensyn/ensyn/region/NetClassNamedPinLaw" = some m.cls := by show T93.vm.findClass _ = _; rw [hSq93.1.alike.findClass]; exact hown4
                      obtain ⟨a93, cs93, rfl, N93p, K93q, TM93, hb93⟩ := hQ93
                      have N93q := own_Fr_mono Z4 N93p
                      have N93 := Fr.app N25 N93q
                      have Z93 : n0 ≤ T93.heap.size := Nat.le_trans Z4 K93q.1
                      have Kp93 := Kc4.trans K93q (fun x hx => nomatch hx)
                      have K94 : ∀ target, Steps p.tables e below (T93.setTop (mkF m 307 #[.val (.int p0), .val (.int p1), .val (.int p2), .val (.int p3), .val (.long q4), .second, .val (.int v1), .val (.int v2), .val (.ref a4), .val (.int v6), .val (.int nn8), .val (.int v10), .val (.int v12), .val (.int v13), .val (.int ch15), .val (.int ch17), .val (.int ch19), .val (.int ch21), .val (.int ch23), .val (.int ch25), .unset, .unset, .unset, .unset] [(.ref a93)])) target → Steps p.tables e below (T25.setTop (mkF m 290 #[.val (.int p0), .val (.int p1), .val (.int p2), .val (.int p3), .val (.long q4), .second, .val (.int v1), .val (.int v2), .val (.ref a4), .val (.int v6), .val (.int nn8), .val (.int v10), .val (.int v12), .val (.int v13), .val (.int ch15), .val (.int ch17), .val (.int ch19), .val (.int ch21), .val (.int ch23), .val (.int ch25), .unset, .unset, .unset, .unset] [])) target := by
                        intro target kt
                        refine XS.iload X25.here hx rfl (hb hby at_290) rfl ?_
                        show Steps p.tables e below (T25.setTop (mkF m 292 #[.val (.int p0), .val (.int p1), .val (.int p2), .val (.int p3), .val (.long q4), .second, .val (.int v1), .val (.int v2), .val (.ref a4), .val (.int v6), .val (.int nn8), .val (.int v10), .val (.int v12), .val (.int v13), .val (.int ch15), .val (.int ch17), .val (.int ch19), .val (.int ch21), .val (.int ch23), .val (.int ch25), .unset, .unset, .unset, .unset] [(.int nn8)])) _
                        refine XS.iload X25.here hx rfl (hb hby at_292) rfl ?_
                        refine XS.iload X25.here hx rfl (hb hby at_294) rfl ?_
                        refine XS.iload X25.here hx rfl (hb hby at_296) rfl ?_
                        refine XS.iload X25.here hx rfl (hb hby at_298) rfl ?_
                        show Steps p.tables e below (T25.setTop (mkF m 300 #[.val (.int p0), .val (.int p1), .val (.int p2), .val (.int p3), .val (.long q4), .second, .val (.int v1), .val (.int v2), .val (.ref a4), .val (.int v6), .val (.int nn8), .val (.int v10), .val (.int v12), .val (.int v13), .val (.int ch15), .val (.int ch17), .val (.int ch19), .val (.int ch21), .val (.int ch23), .val (.int ch25), .unset, .unset, .unset, .unset] [(.int ch21), (.int ch19), (.int ch17), (.int ch15), (.int nn8)])) _
                        refine XS.iload X25.here hx rfl (hb hby at_300) rfl ?_
                        refine XS.iload X25.here hx rfl (hb hby at_302) rfl ?_
                        refine st93.trans ?_
                        exact kt
                      refine Done.of ?_ K94
                      exact cut27 T93 _ T93.vm a93 _ ⟨X93, Kp93, N93, ⟨_, hS93, (Nat.le_refl _)⟩, hZ93, hown93, cr93.1, TM93, hb93⟩
                    · skip
                      obtain ⟨_, _, ⟨T95, L95, k95, n95⟩, -, X95, ⟨Lc95, hQ95, l95, y95, z95⟩, st95⟩ := Jvm.LawKit.callS X25 hx (y := (⟨"com/example/ensyn/ensyn/region/NetClassNamedPinLaw", "make", "(ICCCCCC)Ljava/lang/String;"⟩ : MethodName)) hown4 (mvT hZ4 (hw _ (List.mem_of_getElem? (i := 49) rfl))) (mvT hZ4 (hw _ (List.mem_of_getElem? (i := 50) rfl))) (mvT hZ4 (hw _ (List.mem_of_getElem? (i := 24) rfl))) (mvT hZ4 (hw _ (List.mem_of_getElem? (i := 51) rfl))) (by decide) (backOf (W := 0) (rm9t l Z a0 hw [] nn8 ch15 ch17 ch19 ch21 ch23 ch25 cz T4.heap n0 Z4 hz0 (S_COMPACT_STRINGS.ext (OZ.keep Kc4 all0).2) hcs hv15 hv17 hv19 hv21 hv23 hv25) hZ4 (hw _ (List.mem_of_getElem? (i := 51) rfl)) (hw _ (List.mem_of_getElem? (i := 24) rfl)) (by decide) (by decide)) (g := (mkF m 304 #[.val (.int p0), .val (.int p1), .val (.int p2), .val (.int p3), .val (.long q4), .second, .val (.int v1), .val (.int v2), .val (.ref a4), .val (.int v6), .val (.int nn8), .val (.int v10), .val (.int v12), .val (.int v13), .val (.int ch15), .val (.int ch17), .val (.int ch19), .val (.int ch21), .val (.int ch23), .val (.int ch25), .unset, .unset, .unset, .unset] [(.int ch25), (.int ch23), (.int ch21), (.int ch19), (.int ch17), (.int ch15), (.int nn8)])) rfl (by rw [hml]; rfl) (argsL := [(.int nn8), (.int ch15), (.int ch17), (.int ch19), (.int ch21), (.int ch23), (.int ch25)]) (rest := []) (lenOf pd_13 rfl) rfl (by show 2 * 0 + _ ≤ _; exact Nat.le_of_eq rfl) (hb hby at_304) (fun _ _ => ⟨rfl, e25, (by decide : 2 + 4 ≤ _), (by decide : 24 + 16 ≤ _)⟩)
                      dsimp only [Pt.U, Pt.locs, Pt.cells, Pt.slots] at X95 l95 y95 z95 st95 hQ95
                      rw [l95, y95, z95] at X95
                      obtain ⟨a95, cs95, rfl, N95p, K95q, TM95, hb95⟩ := hQ95
                      have N95q := N95p
                      have N95 := Fr.app N25 N95q
                      have Z95 : n0 ≤ T95.heap.size := Nat.le_trans Z4 K95q.1
                      have Kp95 := Kc4.trans K95q (fun x hx => nomatch hx)
                      have K96 : ∀ target, Steps p.tables e below (T95.setTop (mkF m 307 #[.val (.int p0), .val (.int p1), .val (.int p2), .val (.int p3), .val (.long q4), .second, .val (.int v1), .val (.int v2), .val (.ref a4), .val (.int v6), .val (.int nn8), .val (.int v10), .val (.int v12), .val (.int v13), .val (.int ch15), .val (.int ch17), .val (.int ch19), .val (.int ch21), .val (.int ch23), .val (.int ch25), .unset, .unset, .unset, .unset] [(.ref a95)])) target → Steps p.tables e below (T25.setTop (mkF m 290 #[.val (.int p0), .val (.int p1), .val (.int p2), .val (.int p3), .val (.long q4), .second, .val (.int v1), .val (.int v2), .val (.ref a4), .val (.int v6), .val (.int nn8), .val (.int v10), .val (.int v12), .val (.int v13), .val (.int ch15), .val (.int ch17), .val (.int ch19), .val (.int ch21), .val (.int ch23), .val (.int ch25), .unset, .unset, .unset, .unset] [])) target := by
                        intro target kt
                        refine XS.iload X25.here hx rfl (hb hby at_290) rfl ?_
                        show Steps p.tables e below (T25.setTop (mkF m 292 #[.val (.int p0), .val (.int p1), .val (.int p2), .val (.int p3), .val (.long q4), .second, .val (.int v1), .val (.int v2), .val (.ref a4), .val (.int v6), .val (.int nn8), .val (.int v10), .val (.int v12), .val (.int v13), .val (.int ch15), .val (.int ch17), .val (.int ch19), .val (.int ch21), .val (.int ch23), .val (.int ch25), .unset, .unset, .unset, .unset] [(.int nn8)])) _
                        refine XS.iload X25.here hx rfl (hb hby at_292) rfl ?_
                        refine XS.iload X25.here hx rfl (hb hby at_294) rfl ?_
                        refine XS.iload X25.here hx rfl (hb hby at_296) rfl ?_
                        refine XS.iload X25.here hx rfl (hb hby at_298) rfl ?_
                        show Steps p.tables e below (T25.setTop (mkF m 300 #[.val (.int p0), .val (.int p1), .val (.int p2), .val (.int p3), .val (.long q4), .second, .val (.int v1), .val (.int v2), .val (.ref a4), .val (.int v6), .val (.int nn8), .val (.int v10), .val (.int v12), .val (.int v13), .val (.int ch15), .val (.int ch17), .val (.int ch19), .val (.int ch21), .val (.int ch23), .val (.int ch25), .unset, .unset, .unset, .unset] [(.int ch21), (.int ch19), (.int ch17), (.int ch15), (.int nn8)])) _
                        refine XS.iload X25.here hx rfl (hb hby at_300) rfl ?_
                        refine XS.iload X25.here hx rfl (hb hby at_302) rfl ?_
                        refine st95 _ ?_
                        exact kt
                      refine Done.of ?_ K96
                      exact cut27 T95 _ vm4 a95 _ ⟨X95, Kp95, N95, ⟨_, hS4, (Nat.le_trans hk4 K95q.1)⟩, hZ4, hown4, (CHv.keep K95q (fun _ hx => nomatch hx) hC4), TM95, hb95⟩
                · intro cut25
                  have K97 : ∀ target, Steps p.tables e below (T23.setTop (mkF m 264 #[.val (.int p0), .val (.int p1), .val (.int p2), .val (.int p3), .val (.long q4), .second, .val (.int v1), .val (.int v2), .val (.ref a4), .val (.int v6), .val (.int nn8), .val (.int v10), .val (.int v12), .val (.int v13), .val (.int ch15), .val (.int ch17), .val (.int ch19), .val (.int ch21), .val (.int ch23), .unset, .unset, .unset, .unset, .unset] [(.int v10)])) target → Steps p.tables e below (T23.setTop (mkF m 262 #[.val (.int p0), .val (.int p1), .val (.int p2), .val (.int p3), .val (.long q4), .second, .val (.int v1), .val (.int v2), .val (.ref a4), .val (.int v6), .val (.int nn8), .val (.int v10), .val (.int v12), .val (.int v13), .val (.int ch15), .val (.int ch17), .val (.int ch19), .val (.int ch21), .val (.int ch23), .unset, .unset, .unset, .unset, .unset] [])) target := by
                    intro target kt
                    refine XS.iload X23.here hx rfl (hb hby at_262) rfl ?_
                    exact kt
                  refine Done.of ?_ K97
                  by_cases hc264_98 : v10 = (0 : Int32)
                  · have K : ∀ target, Steps p.tables e below (T23.setTop (mkF m 278 #[.val (.int p0), .val (.int p1), .val (.int p2), .val (.int p3), .val (.long q4), .second, .val (.int v1), .val (.int v2), .val (.ref a4), .val (.int v6), .val (.int nn8), .val (.int v10), .val (.int v12), .val (.int v13), .val (.int ch15), .val (.int ch17), .val (.int ch19), .val (.int ch21), .val (.int ch23), .unset, .unset, .unset, .unset, .unset] [])) target → Steps p.tables e below (T23.setTop (mkF m 264 #[.val (.int p0), .val (.int p1), .val (.int p2), .val (.int p3), .val (.long q4), .second, .val (.int v1), .val (.int v2), .val (.ref a4), .val (.int v6), .val (.int nn8), .val (.int v10), .val (.int v12), .val (.int v13), .val (.int ch15), .val (.int ch17), .val (.int ch19), .val (.int ch21), .val (.int ch23), .unset, .unset, .unset, .unset, .unset] [(.int v10)])) target := by
                      intro target kt
                      refine XS.ifYes X23.here hx rfl (pc0 := 264) (pc' := 278) rfl (hb hby at_264) rfl ((if0 _ _).trans (teq hc264_98).1) (by decide) (by decide) ?_
                      exact kt
                    refine Done.of ?_ K
                    obtain ⟨_, _, ⟨T99, L99, k99, n99⟩, -, X99, ⟨Lc99, hQ99, l99, y99, z99⟩, st99⟩ := Jvm.LawKit.callS X23 hx (y := (⟨"com/example/ensyn/ensyn/region/NetClassNamedPinLaw", "pick", "(ILjava/lang/String;IJ)C"⟩ : MethodName)) hown4 (mvT hZ4 (hw _ (List.mem_of_getElem? (i := 22) rfl))) (mvT hZ4 (hw _ (List.mem_of_getElem? (i := 23) rfl))) (mvT hZ4 (hw _ (List.mem_of_getElem? (i := 24) rfl))) (mvT hZ4 (hw _ (List.mem_of_getElem? (i := 25) rfl))) (by decide) (backOf (W := 0) (rm3 l Z a0 hw [] v1 a4 (5 : Int32) q4 cs4 5 cz fm T4.heap n0 Z4 hT4 hb4 (S_COMPACT_STRINGS.ext (OZ.keep Kc4 all0).2) hcs (S_SIOOBE_FORMATTER.ext (OZ.keep Kc4 all0).2) hfm rfl (by decide)) hZ4 (hw _ (List.mem_of_getElem? (i := 25) rfl)) (hw _ (List.mem_of_getElem? (i := 24) rfl)) (by decide) (by decide)) (g := (mkF m 285 #[.val (.int p0), .val (.int p1), .val (.int p2), .val (.int p3), .val (.long q4), .second, .val (.int v1), .val (.int v2), .val (.ref a4), .val (.int v6), .val (.int nn8), .val (.int v10), .val (.int v12), .val (.int v13), .val (.int ch15), .val (.int ch17), .val (.int ch19), .val (.int ch21), .val (.int ch23), .unset, .unset, .unset, .unset, .unset] [(.long q4), (.int (5 : Int32)), (.ref a4), (.int v1)])) rfl (by rw [hml]; rfl) (argsL := [(.int v1), (.ref a4), (.int (5 : Int32)), (.long q4)]) (rest := []) (lenOf pd_14 rfl) rfl (by show 2 * 0 + _ ≤ _; exact Nat.le_of_eq rfl) (hb hby at_285) (fun _ _ => ⟨rfl, e23, (by decide : 2 + 0 ≤ _), (by decide : 24 + 0 ≤ _)⟩)
                    dsimp only [Pt.U, Pt.locs, Pt.cells, Pt.slots] at X99 l99 y99 z99 st99 hQ99
                    rw [l99, y99, z99] at X99
                    obtain ⟨ch99, rfl, hb99, N99q, e99⟩ := hQ99
                    have N99 := Fr.app N23 N99q
                    have K100 : ∀ target, Steps p.tables e below (T99.setTop (mkF m 288 #[.val (.int p0), .val (.int p1), .val (.int p2), .val (.int p3), .val (.long q4), .second, .val (.int v1), .val (.int v2), .val (.ref a4), .val (.int v6), .val (.int nn8), .val (.int v10), .val (.int v12), .val (.int v13), .val (.int ch15), .val (.int ch17), .val (.int ch19), .val (.int ch21), .val (.int ch23), .unset, .unset, .unset, .unset, .unset] [(.int ch99)])) target → Steps p.tables e below (T23.setTop (mkF m 278 #[.val (.int p0), .val (.int p1), .val (.int p2), .val (.int p3), .val (.long q4), .second, .val (.int v1), .val (.int v2), .val (.ref a4), .val (.int v6), .val (.int nn8), .val (.int v10), .val (.int v12), .val (.int v13), .val (.int ch15), .val (.int ch17), .val (.int ch19), .val (.int ch21), .val (.int ch23), .unset, .unset, .unset, .unset, .unset] [])) target := by
                      intro target kt
                      show Steps p.tables e below (T23.setTop (mkF m 278 #[.val (.int p0), .val (.int p1), .val (.int p2), .val (.int p3), .val (.long q4), .second, .val (.int v1), .val (.int v2), .val (.ref a4), .val (.int v6), .val (.int nn8), .val (.int v10), .val (.int v12), .val (.int v13), .val (.int ch15), .val (.int ch17), .val (.int ch19), .val (.int ch21), .val (.int ch23), .unset, .unset, .unset, .unset, .unset] [])) _
                      refine XS.iload X23.here hx rfl (hb hby at_278) rfl ?_
                      refine XS.aload X23.here hx rfl (hb hby at_280) rfl rfl ?_
                      refine XS.iconst X23.here hx rfl (hb hby at_282) ?_
                      refine XS.lload X23.here hx rfl (hb hby at_283) rfl ?_
                      show Steps p.tables e below (T23.setTop (mkF m 285 #[.val (.int p0), .val (.int p1), .val (.int p2), .val (.int p3), .val (.long q4), .second, .val (.int v1), .val (.int v2), .val (.ref a4), .val (.int v6), .val (.int nn8), .val (.int v10), .val (.int v12), .val (.int v13), .val (.int ch15), .val (.int ch17), .val (.int ch19), .val (.int ch21), .val (.int ch23), .unset, .unset, .unset, .unset, .unset] [(.long q4), (.int (5 : Int32)), (.ref a4), (.int v1)])) _
                      refine st99 _ ?_
                      exact kt
                    refine Done.of ?_ K100
                    exact cut25 T99 _ ch99 ⟨X99, e99, N99, hb99⟩
                  · have K : ∀ target, Steps p.tables e below (T23.setTop (mkF m 267 #[.val (.int p0), .val (.int p1), .val (.int p2), .val (.int p3), .val (.long q4), .second, .val (.int v1), .val (.int v2), .val (.ref a4), .val (.int v6), .val (.int nn8), .val (.int v10), .val (.int v12), .val (.int v13), .val (.int ch15), .val (.int ch17), .val (.int ch19), .val (.int ch21), .val (.int ch23), .unset, .unset, .unset, .unset, .unset] [])) target → Steps p.tables e below (T23.setTop (mkF m 264 #[.val (.int p0), .val (.int p1), .val (.int p2), .val (.int p3), .val (.long q4), .second, .val (.int v1), .val (.int v2), .val (.ref a4), .val (.int v6), .val (.int nn8), .val (.int v10), .val (.int v12), .val (.int v13), .val (.int ch15), .val (.int ch17), .val (.int ch19), .val (.int ch21), .val (.int ch23), .unset, .unset, .unset, .unset, .unset] [(.int v10)])) target := by
                      intro target kt
                      refine XS.ifNo X23.here hx rfl (hb hby at_264) rfl ((if0 _ _).trans (feq hc264_98).1) ?_
                      exact kt
                    refine Done.of ?_ K
                    have K101 : ∀ target, Steps p.tables e below (T23.setTop (mkF m 270 #[.val (.int p0), .val (.int p1), .val (.int p2), .val (.int p3), .val (.long q4), .second, .val (.int v1), .val (.int v2), .val (.ref a4), .val (.int v6), .val (.int nn8), .val (.int v10), .val (.int v12), .val (.int v13), .val (.int ch15), .val (.int ch17), .val (.int ch19), .val (.int ch21), .val (.int ch23), .unset, .unset, .unset, .unset, .unset] [(.int (5 : Int32)), (.int v12)])) target → Steps p.tables e below (T23.setTop (mkF m 267 #[.val (.int p0), .val (.int p1), .val (.int p2), .val (.int p3), .val (.long q4), .second, .val (.int v1), .val (.int v2), .val (.ref a4), .val (.int v6), .val (.int nn8), .val (.int v10), .val (.int v12), .val (.int v13), .val (.int ch15), .val (.int ch17), .val (.int ch19), .val (.int ch21), .val (.int ch23), .unset, .unset, .unset, .unset, .unset] [])) target := by
                      intro target kt
                      refine XS.iload X23.here hx rfl (hb hby at_267) rfl ?_
                      refine XS.iconst X23.here hx rfl (hb hby at_269) ?_
                      exact kt
                    refine Done.of ?_ K101
                    by_cases hc270_102 : v12 = (5 : Int32)
                    · have K : ∀ target, Steps p.tables e below (T23.setTop (mkF m 273 #[.val (.int p0), .val (.int p1), .val (.int p2), .val (.int p3), .val (.long q4), .second, .val (.int v1), .val (.int v2), .val (.ref a4), .val (.int v6), .val (.int nn8), .val (.int v10), .val (.int v12), .val (.int v13), .val (.int ch15), .val (.int ch17), .val (.int ch19), .val (.int ch21), .val (.int ch23), .unset, .unset, .unset, .unset, .unset] [])) target → Steps p.tables e below (T23.setTop (mkF m 270 #[.val (.int p0), .val (.int p1), .val (.int p2), .val (.int p3), .val (.long q4), .second, .val (.int v1), .val (.int v2), .val (.ref a4), .val (.int v6), .val (.int nn8), .val (.int v10), .val (.int v12), .val (.int v13), .val (.int ch15), .val (.int ch17), .val (.int ch19), .val (.int ch21), .val (.int ch23), .unset, .unset, .unset, .unset, .unset] [(.int (5 : Int32)), (.int v12)])) target := by
                        intro target kt
                        refine XS.icmpNo X23.here hx rfl (hb hby at_270) rfl (teq hc270_102).2 ?_
                        exact kt
                      refine Done.of ?_ K
                      have K103 : ∀ target, Steps p.tables e below (T23.setTop (mkF m 288 #[.val (.int p0), .val (.int p1), .val (.int p2), .val (.int p3), .val (.long q4), .second, .val (.int v1), .val (.int v2), .val (.ref a4), .val (.int v6), .val (.int nn8), .val (.int v10), .val (.int v12), .val (.int v13), .val (.int ch15), .val (.int ch17), .val (.int ch19), .val (.int ch21), .val (.int ch23), .unset, .unset, .unset, .unset, .unset] [(.int v13)])) target → Steps p.tables e below (T23.setTop (mkF m 273 #[.val (.int p0), .val (.int p1), .val (.int p2), .val (.int p3), .val (.long q4), .second, .val (.int v1), .val (.int v2), .val (.ref a4), .val (.int v6), .val (.int nn8), .val (.int v10), .val (.int v12), .val (.int v13), .val (.int ch15), .val (.int ch17), .val (.int ch19), .val (.int ch21), .val (.int ch23), .unset, .unset, .unset, .unset, .unset] [])) target := by
                        intro target kt
                        refine XS.iload X23.here hx rfl (hb hby at_273) rfl ?_
                        show Steps p.tables e below (T23.setTop (mkF m 275 #[.val (.int p0), .val (.int p1), .val (.int p2), .val (.int p3), .val (.long q4), .second, .val (.int v1), .val (.int v2), .val (.ref a4), .val (.int v6), .val (.int nn8), .val (.int v10), .val (.int v12), .val (.int v13), .val (.int ch15), .val (.int ch17), .val (.int ch19), .val (.int ch21), .val (.int ch23), .unset, .unset, .unset, .unset, .unset] [(.int v13)])) _
                        refine XS.goto X23.here hx rfl (pc0 := 275) (pc' := 288) rfl (hb hby at_275) (by decide) (by decide) ?_
                        exact kt
                      refine Done.of ?_ K103
                      exact cut25 T23 _ v13 ⟨X23, e23, N23, (by rw [ev13]; exact own_mc p3)⟩
                    · have K : ∀ target, Steps p.tables e below (T23.setTop (mkF m 278 #[.val (.int p0), .val (.int p1), .val (.int p2), .val (.int p3), .val (.long q4), .second, .val (.int v1), .val (.int v2), .val (.ref a4), .val (.int v6), .val (.int nn8), .val (.int v10), .val (.int v12), .val (.int v13), .val (.int ch15), .val (.int ch17), .val (.int ch19), .val (.int ch21), .val (.int ch23), .unset, .unset, .unset, .unset, .unset] [])) target → Steps p.tables e below (T23.setTop (mkF m 270 #[.val (.int p0), .val (.int p1), .val (.int p2), .val (.int p3), .val (.long q4), .second, .val (.int v1), .val (.int v2), .val (.ref a4), .val (.int v6), .val (.int nn8), .val (.int v10), .val (.int v12), .val (.int v13), .val (.int ch15), .val (.int ch17), .val (.int ch19), .val (.int ch21), .val (.int ch23), .unset, .unset, .unset, .unset, .unset] [(.int (5 : Int32)), (.int v12)])) target := by
                        intro target kt
                        refine XS.icmpYes X23.here hx rfl (pc0 := 270) (pc' := 278) rfl (hb hby at_270) rfl (feq hc270_102).2 (by decide) (by decide) ?_
                        exact kt
                      refine Done.of ?_ K
                      obtain ⟨_, _, ⟨T104, L104, k104, n104⟩, -, X104, ⟨Lc104, hQ104, l104, y104, z104⟩, st104⟩ := Jvm.LawKit.callS X23 hx (y := (⟨"com/example/ensyn/ensyn/region/NetClassNamedPinLaw", "pick", "(ILjava/lang/String;IJ)C"⟩ : MethodName)) hown4 (mvT hZ4 (hw _ (List.mem_of_getElem? (i := 22) rfl))) (mvT hZ4 (hw _ (List.mem_of_getElem? (i := 23) rfl))) (mvT hZ4 (hw _ (List.mem_of_getElem? (i := 24) rfl))) (mvT hZ4 (hw _ (List.mem_of_getElem? (i := 25) rfl))) (by decide) (backOf (W := 0) (rm3 l Z a0 hw [] v1 a4 (5 : Int32) q4 cs4 5 cz fm T4.heap n0 Z4 hT4 hb4 (S_COMPACT_STRINGS.ext (OZ.keep Kc4 all0).2) hcs (S_SIOOBE_FORMATTER.ext (OZ.keep Kc4 all0).2) hfm rfl (by decide)) hZ4 (hw _ (List.mem_of_getElem? (i := 25) rfl)) (hw _ (List.mem_of_getElem? (i := 24) rfl)) (by decide) (by decide)) (g := (mkF m 285 #[.val (.int p0), .val (.int p1), .val (.int p2), .val (.int p3), .val (.long q4), .second, .val (.int v1), .val (.int v2), .val (.ref a4), .val (.int v6), .val (.int nn8), .val (.int v10), .val (.int v12), .val (.int v13), .val (.int ch15), .val (.int ch17), .val (.int ch19), .val (.int ch21), .val (.int ch23), .unset, .unset, .unset, .unset, .unset] [(.long q4), (.int (5 : Int32)), (.ref a4), (.int v1)])) rfl (by rw [hml]; rfl) (argsL := [(.int v1), (.ref a4), (.int (5 : Int32)), (.long q4)]) (rest := []) (lenOf pd_14 rfl) rfl (by show 2 * 0 + _ ≤ _; exact Nat.le_of_eq rfl) (hb hby at_285) (fun _ _ => ⟨rfl, e23, (by decide : 2 + 0 ≤ _), (by decide : 24 + 0 ≤ _)⟩)
                      dsimp only [Pt.U, Pt.locs, Pt.cells, Pt.slots] at X104 l104 y104 z104 st104 hQ104
                      rw [l104, y104, z104] at X104
                      obtain ⟨ch104, rfl, hb104, N104q, e104⟩ := hQ104
                      have N104 := Fr.app N23 N104q
                      have K105 : ∀ target, Steps p.tables e below (T104.setTop (mkF m 288 #[.val (.int p0), .val (.int p1), .val (.int p2), .val (.int p3), .val (.long q4), .second, .val (.int v1), .val (.int v2), .val (.ref a4), .val (.int v6), .val (.int nn8), .val (.int v10), .val (.int v12), .val (.int v13), .val (.int ch15), .val (.int ch17), .val (.int ch19), .val (.int ch21), .val (.int ch23), .unset, .unset, .unset, .unset, .unset] [(.int ch104)])) target → Steps p.tables e below (T23.setTop (mkF m 278 #[.val (.int p0), .val (.int p1), .val (.int p2), .val (.int p3), .val (.long q4), .second, .val (.int v1), .val (.int v2), .val (.ref a4), .val (.int v6), .val (.int nn8), .val (.int v10), .val (.int v12), .val (.int v13), .val (.int ch15), .val (.int ch17), .val (.int ch19), .val (.int ch21), .val (.int ch23), .unset, .unset, .unset, .unset, .unset] [])) target := by
                        intro target kt
                        show Steps p.tables e below (T23.setTop (mkF m 278 #[.val (.int p0), .val (.int p1), .val (.int p2), .val (.int p3), .val (.long q4), .second, .val (.int v1), .val (.int v2), .val (.ref a4), .val (.int v6), .val (.int nn8), .val (.int v10), .val (.int v12), .val (.int v13), .val (.int ch15), .val (.int ch17), .val (.int ch19), .val (.int ch21), .val (.int ch23), .unset, .unset, .unset, .unset, .unset] [])) _
                        refine XS.iload X23.here hx rfl (hb hby at_278) rfl ?_
                        refine XS.aload X23.here hx rfl (hb hby at_280) rfl rfl ?_
                        refine XS.iconst X23.here hx rfl (hb hby at_282) ?_
                        refine XS.lload X23.here hx rfl (hb hby at_283) rfl ?_
                        show Steps p.tables e below (T23.setTop (mkF m 285 #[.val (.int p0), .val (.int p1), .val (.int p2), .val (.int p3), .val (.long q4), .second, .val (.int v1), .val (.int v2), .val (.ref a4), .val (.int v6), .val (.int nn8), .val (.int v10), .val (.int v12), .val (.int v13), .val (.int ch15), .val (.int ch17), .val (.int ch19), .val (.int ch21), .val (.int ch23), .unset, .unset, .unset, .unset, .unset] [(.long q4), (.int (5 : Int32)), (.ref a4), (.int v1)])) _
                        refine st104 _ ?_
                        exact kt
                      refine Done.of ?_ K105
                      exact cut25 T104 _ ch104 ⟨X104, e104, N104, hb104⟩
              · intro cut23
                have K106 : ∀ target, Steps p.tables e below (T21.setTop (mkF m 236 #[.val (.int p0), .val (.int p1), .val (.int p2), .val (.int p3), .val (.long q4), .second, .val (.int v1), .val (.int v2), .val (.ref a4), .val (.int v6), .val (.int nn8), .val (.int v10), .val (.int v12), .val (.int v13), .val (.int ch15), .val (.int ch17), .val (.int ch19), .val (.int ch21), .unset, .unset, .unset, .unset, .unset, .unset] [(.int v10)])) target → Steps p.tables e below (T21.setTop (mkF m 234 #[.val (.int p0), .val (.int p1), .val (.int p2), .val (.int p3), .val (.long q4), .second, .val (.int v1), .val (.int v2), .val (.ref a4), .val (.int v6), .val (.int nn8), .val (.int v10), .val (.int v12), .val (.int v13), .val (.int ch15), .val (.int ch17), .val (.int ch19), .val (.int ch21), .unset, .unset, .unset, .unset, .unset, .unset] [])) target := by
                  intro target kt
                  refine XS.iload X21.here hx rfl (hb hby at_234) rfl ?_
                  exact kt
                refine Done.of ?_ K106
                by_cases hc236_107 : v10 = (0 : Int32)
                · have K : ∀ target, Steps p.tables e below (T21.setTop (mkF m 250 #[.val (.int p0), .val (.int p1), .val (.int p2), .val (.int p3), .val (.long q4), .second, .val (.int v1), .val (.int v2), .val (.ref a4), .val (.int v6), .val (.int nn8), .val (.int v10), .val (.int v12), .val (.int v13), .val (.int ch15), .val (.int ch17), .val (.int ch19), .val (.int ch21), .unset, .unset, .unset, .unset, .unset, .unset] [])) target → Steps p.tables e below (T21.setTop (mkF m 236 #[.val (.int p0), .val (.int p1), .val (.int p2), .val (.int p3), .val (.long q4), .second, .val (.int v1), .val (.int v2), .val (.ref a4), .val (.int v6), .val (.int nn8), .val (.int v10), .val (.int v12), .val (.int v13), .val (.int ch15), .val (.int ch17), .val (.int ch19), .val (.int ch21), .unset, .unset, .unset, .unset, .unset, .unset] [(.int v10)])) target := by
                    intro target kt
                    refine XS.ifYes X21.here hx rfl (pc0 := 236) (pc' := 250) rfl (hb hby at_236) rfl ((if0 _ _).trans (teq hc236_107).1) (by decide) (by decide) ?_
                    exact kt
                  refine Done.of ?_ K
                  obtain ⟨_, _, ⟨T108, L108, k108, n108⟩, -, X108, ⟨Lc108, hQ108, l108, y108, z108⟩, st108⟩ := Jvm.LawKit.callS X21 hx (y := (⟨"com/example/ensyn/ensyn/region/NetClassNamedPinLaw", "pick", "(ILjava/lang/String;IJ)C"⟩ : MethodName)) hown4 (mvT hZ4 (hw _ (List.mem_of_getElem? (i := 22) rfl))) (mvT hZ4 (hw _ (List.mem_of_getElem? (i := 23) rfl))) (mvT hZ4 (hw _ (List.mem_of_getElem? (i := 24) rfl))) (mvT hZ4 (hw _ (List.mem_of_getElem? (i := 25) rfl))) (by decide) (backOf (W := 0) (rm3 l Z a0 hw [] v1 a4 (4 : Int32) q4 cs4 4 cz fm T4.heap n0 Z4 hT4 hb4 (S_COMPACT_STRINGS.ext (OZ.keep Kc4 all0).2) hcs (S_SIOOBE_FORMATTER.ext (OZ.keep Kc4 all0).2) hfm rfl (by decide)) hZ4 (hw _ (List.mem_of_getElem? (i := 25) rfl)) (hw _ (List.mem_of_getElem? (i := 24) rfl)) (by decide) (by decide)) (g := (mkF m 257 #[.val (.int p0), .val (.int p1), .val (.int p2), .val (.int p3), .val (.long q4), .second, .val (.int v1), .val (.int v2), .val (.ref a4), .val (.int v6), .val (.int nn8), .val (.int v10), .val (.int v12), .val (.int v13), .val (.int ch15), .val (.int ch17), .val (.int ch19), .val (.int ch21), .unset, .unset, .unset, .unset, .unset, .unset] [(.long q4), (.int (4 : Int32)), (.ref a4), (.int v1)])) rfl (by rw [hml]; rfl) (argsL := [(.int v1), (.ref a4), (.int (4 : Int32)), (.long q4)]) (rest := []) (lenOf pd_14 rfl) rfl (by show 2 * 0 + _ ≤ _; exact Nat.le_of_eq rfl) (hb hby at_257) (fun _ _ => ⟨rfl, e21, (by decide : 2 + 0 ≤ _), (by decide : 24 + 0 ≤ _)⟩)
                  dsimp only [Pt.U, Pt.locs, Pt.cells, Pt.slots] at X108 l108 y108 z108 st108 hQ108
                  rw [l108, y108, z108] at X108
                  obtain ⟨ch108, rfl, hb108, N108q, e108⟩ := hQ108
                  have N108 := Fr.app N21 N108q
                  have K109 : ∀ target, Steps p.tables e below (T108.setTop (mkF m 260 #[.val (.int p0), .val (.int p1), .val (.int p2), .val (.int p3), .val (.long q4), .second, .val (.int v1), .val (.int v2), .val (.ref a4), .val (.int v6), .val (.int nn8), .val (.int v10), .val (.int v12), .val (.int v13), .val (.int ch15), .val (.int ch17), .val (.int ch19), .val (.int ch21), .unset, .unset, .unset, .unset, .unset, .unset] [(.int ch108)])) target → Steps p.tables e below (T21.setTop (mkF m 250 #[.val (.int p0), .val (.int p1), .val (.int p2), .val (.int p3), .val (.long q4), .second, .val (.int v1), .val (.int v2), .val (.ref a4), .val (.int v6), .val (.int nn8), .val (.int v10), .val (.int v12), .val (.int v13), .val (.int ch15), .val (.int ch17), .val (.int ch19), .val (.int ch21), .unset, .unset, .unset, .unset, .unset, .unset] [])) target := by
                    intro target kt
                    refine XS.iload X21.here hx rfl (hb hby at_250) rfl ?_
                    refine XS.aload X21.here hx rfl (hb hby at_252) rfl rfl ?_
                    show Steps p.tables e below (T21.setTop (mkF m 254 #[.val (.int p0), .val (.int p1), .val (.int p2), .val (.int p3), .val (.long q4), .second, .val (.int v1), .val (.int v2), .val (.ref a4), .val (.int v6), .val (.int nn8), .val (.int v10), .val (.int v12), .val (.int v13), .val (.int ch15), .val (.int ch17), .val (.int ch19), .val (.int ch21), .unset, .unset, .unset, .unset, .unset, .unset] [(.ref a4), (.int v1)])) _
                    refine XS.iconst X21.here hx rfl (hb hby at_254) ?_
                    refine XS.lload X21.here hx rfl (hb hby at_255) rfl ?_
                    refine st108 _ ?_
                    exact kt
                  refine Done.of ?_ K109
                  exact cut23 T108 _ ch108 ⟨X108, e108, N108, hb108⟩
                · have K : ∀ target, Steps p.tables e below (T21.setTop (mkF m 239 #[.val (.int p0), .val (.int p1), .val (.int p2), .val (.int p3), .val (.long q4), .second, .val (.int v1), .val (.int v2), .val (.ref a4), .val (.int v6), .val (.int nn8), .val (.int v10), .val (.int v12), .val (.int v13), .val (.int ch15), .val (.int ch17), .val (.int ch19), .val (.int ch21), .unset, .unset, .unset, .unset, .unset, .unset] [])) target → Steps p.tables e below (T21.setTop (mkF m 236 #[.val (.int p0), .val (.int p1), .val (.int p2), .val (.int p3), .val (.long q4), .second, .val (.int v1), .val (.int v2), .val (.ref a4), .val (.int v6), .val (.int nn8), .val (.int v10), .val (.int v12), .val (.int v13), .val (.int ch15), .val (.int ch17), .val (.int ch19), .val (.int ch21), .unset, .unset, .unset, .unset, .unset, .unset] [(.int v10)])) target := by
                    intro target kt
                    refine XS.ifNo X21.here hx rfl (hb hby at_236) rfl ((if0 _ _).trans (feq hc236_107).1) ?_
                    exact kt
                  refine Done.of ?_ K
                  have K110 : ∀ target, Steps p.tables e below (T21.setTop (mkF m 242 #[.val (.int p0), .val (.int p1), .val (.int p2), .val (.int p3), .val (.long q4), .second, .val (.int v1), .val (.int v2), .val (.ref a4), .val (.int v6), .val (.int nn8), .val (.int v10), .val (.int v12), .val (.int v13), .val (.int ch15), .val (.int ch17), .val (.int ch19), .val (.int ch21), .unset, .unset, .unset, .unset, .unset, .unset] [(.int (4 : Int32)), (.int v12)])) target → Steps p.tables e below (T21.setTop (mkF m 239 #[.val (.int p0), .val (.int p1), .val (.int p2), .val (.int p3), .val (.long q4), .second, .val (.int v1), .val (.int v2), .val (.ref a4), .val (.int v6), .val (.int nn8), .val (.int v10), .val (.int v12), .val (.int v13), .val (.int ch15), .val (.int ch17), .val (.int ch19), .val (.int ch21), .unset, .unset, .unset, .unset, .unset, .unset] [])) target := by
                    intro target kt
                    refine XS.iload X21.here hx rfl (hb hby at_239) rfl ?_
                    show Steps p.tables e below (T21.setTop (mkF m 241 #[.val (.int p0), .val (.int p1), .val (.int p2), .val (.int p3), .val (.long q4), .second, .val (.int v1), .val (.int v2), .val (.ref a4), .val (.int v6), .val (.int nn8), .val (.int v10), .val (.int v12), .val (.int v13), .val (.int ch15), .val (.int ch17), .val (.int ch19), .val (.int ch21), .unset, .unset, .unset, .unset, .unset, .unset] [(.int v12)])) _
                    refine XS.iconst X21.here hx rfl (hb hby at_241) ?_
                    exact kt
                  refine Done.of ?_ K110
                  by_cases hc242_111 : v12 = (4 : Int32)
                  · have K : ∀ target, Steps p.tables e below (T21.setTop (mkF m 245 #[.val (.int p0), .val (.int p1), .val (.int p2), .val (.int p3), .val (.long q4), .second, .val (.int v1), .val (.int v2), .val (.ref a4), .val (.int v6), .val (.int nn8), .val (.int v10), .val (.int v12), .val (.int v13), .val (.int ch15), .val (.int ch17), .val (.int ch19), .val (.int ch21), .unset, .unset, .unset, .unset, .unset, .unset] [])) target → Steps p.tables e below (T21.setTop (mkF m 242 #[.val (.int p0), .val (.int p1), .val (.int p2), .val (.int p3), .val (.long q4), .second, .val (.int v1), .val (.int v2), .val (.ref a4), .val (.int v6), .val (.int nn8), .val (.int v10), .val (.int v12), .val (.int v13), .val (.int ch15), .val (.int ch17), .val (.int ch19), .val (.int ch21), .unset, .unset, .unset, .unset, .unset, .unset] [(.int (4 : Int32)), (.int v12)])) target := by
                      intro target kt
                      refine XS.icmpNo X21.here hx rfl (hb hby at_242) rfl (teq hc242_111).2 ?_
                      exact kt
                    refine Done.of ?_ K
                    have K112 : ∀ target, Steps p.tables e below (T21.setTop (mkF m 260 #[.val (.int p0), .val (.int p1), .val (.int p2), .val (.int p3), .val (.long q4), .second, .val (.int v1), .val (.int v2), .val (.ref a4), .val (.int v6), .val (.int nn8), .val (.int v10), .val (.int v12), .val (.int v13), .val (.int ch15), .val (.int ch17), .val (.int ch19), .val (.int ch21), .unset, .unset, .unset, .unset, .unset, .unset] [(.int v13)])) target → Steps p.tables e below (T21.setTop (mkF m 245 #[.val (.int p0), .val (.int p1), .val (.int p2), .val (.int p3), .val (.long q4), .second, .val (.int v1), .val (.int v2), .val (.ref a4), .val (.int v6), .val (.int nn8), .val (.int v10), .val (.int v12), .val (.int v13), .val (.int ch15), .val (.int ch17), .val (.int ch19), .val (.int ch21), .unset, .unset, .unset, .unset, .unset, .unset] [])) target := by
                      intro target kt
                      refine XS.iload X21.here hx rfl (hb hby at_245) rfl ?_
                      show Steps p.tables e below (T21.setTop (mkF m 247 #[.val (.int p0), .val (.int p1), .val (.int p2), .val (.int p3), .val (.long q4), .second, .val (.int v1), .val (.int v2), .val (.ref a4), .val (.int v6), .val (.int nn8), .val (.int v10), .val (.int v12), .val (.int v13), .val (.int ch15), .val (.int ch17), .val (.int ch19), .val (.int ch21), .unset, .unset, .unset, .unset, .unset, .unset] [(.int v13)])) _
                      refine XS.goto X21.here hx rfl (pc0 := 247) (pc' := 260) rfl (hb hby at_247) (by decide) (by decide) ?_
                      exact kt
                    refine Done.of ?_ K112
                    exact cut23 T21 _ v13 ⟨X21, e21, N21, (by rw [ev13]; exact own_mc p3)⟩
                  · have K : ∀ target, Steps p.tables e below (T21.setTop (mkF m 250 #[.val (.int p0), .val (.int p1), .val (.int p2), .val (.int p3), .val (.long q4), .second, .val (.int v1), .val (.int v2), .val (.ref a4), .val (.int v6), .val (.int nn8), .val (.int v10), .val (.int v12), .val (.int v13), .val (.int ch15), .val (.int ch17), .val (.int ch19), .val (.int ch21), .unset, .unset, .unset, .unset, .unset, .unset] [])) target → Steps p.tables e below (T21.setTop (mkF m 242 #[.val (.int p0), .val (.int p1), .val (.int p2), .val (.int p3), .val (.long q4), .second, .val (.int v1), .val (.int v2), .val (.ref a4), .val (.int v6), .val (.int nn8), .val (.int v10), .val (.int v12), .val (.int v13), .val (.int ch15), .val (.int ch17), .val (.int ch19), .val (.int ch21), .unset, .unset, .unset, .unset, .unset, .unset] [(.int (4 : Int32)), (.int v12)])) target := by
                      intro target kt
                      refine XS.icmpYes X21.here hx rfl (pc0 := 242) (pc' := 250) rfl (hb hby at_242) rfl (feq hc242_111).2 (by decide) (by decide) ?_
                      exact kt
                    refine Done.of ?_ K
                    obtain ⟨_, _, ⟨T113, L113, k113, n113⟩, -, X113, ⟨Lc113, hQ113, l113, y113, z113⟩, st113⟩ := Jvm.LawKit.callS X21 hx (y := (⟨"com/example/ensyn/ensyn/region/NetClassNamedPinLaw", "pick", "(ILjava/lang/String;IJ)C"⟩ : MethodName)) hown4 (mvT hZ4 (hw _ (List.mem_of_getElem? (i := 22) rfl))) (mvT hZ4 (hw _ (List.mem_of_getElem? (i := 23) rfl))) (mvT hZ4 (hw _ (List.mem_of_getElem? (i := 24) rfl))) (mvT hZ4 (hw _ (List.mem_of_getElem? (i := 25) rfl))) (by decide) (backOf (W := 0) (rm3 l Z a0 hw [] v1 a4 (4 : Int32) q4 cs4 4 cz fm T4.heap n0 Z4 hT4 hb4 (S_COMPACT_STRINGS.ext (OZ.keep Kc4 all0).2) hcs (S_SIOOBE_FORMATTER.ext (OZ.keep Kc4 all0).2) hfm rfl (by decide)) hZ4 (hw _ (List.mem_of_getElem? (i := 25) rfl)) (hw _ (List.mem_of_getElem? (i := 24) rfl)) (by decide) (by decide)) (g := (mkF m 257 #[.val (.int p0), .val (.int p1), .val (.int p2), .val (.int p3), .val (.long q4), .second, .val (.int v1), .val (.int v2), .val (.ref a4), .val (.int v6), .val (.int nn8), .val (.int v10), .val (.int v12), .val (.int v13), .val (.int ch15), .val (.int ch17), .val (.int ch19), .val (.int ch21), .unset, .unset, .unset, .unset, .unset, .unset] [(.long q4), (.int (4 : Int32)), (.ref a4), (.int v1)])) rfl (by rw [hml]; rfl) (argsL := [(.int v1), (.ref a4), (.int (4 : Int32)), (.long q4)]) (rest := []) (lenOf pd_14 rfl) rfl (by show 2 * 0 + _ ≤ _; exact Nat.le_of_eq rfl) (hb hby at_257) (fun _ _ => ⟨rfl, e21, (by decide : 2 + 0 ≤ _), (by decide : 24 + 0 ≤ _)⟩)
                    dsimp only [Pt.U, Pt.locs, Pt.cells, Pt.slots] at X113 l113 y113 z113 st113 hQ113
                    rw [l113, y113, z113] at X113
                    obtain ⟨ch113, rfl, hb113, N113q, e113⟩ := hQ113
                    have N113 := Fr.app N21 N113q
                    have K114 : ∀ target, Steps p.tables e below (T113.setTop (mkF m 260 #[.val (.int p0), .val (.int p1), .val (.int p2), .val (.int p3), .val (.long q4), .second, .val (.int v1), .val (.int v2), .val (.ref a4), .val (.int v6), .val (.int nn8), .val (.int v10), .val (.int v12), .val (.int v13), .val (.int ch15), .val (.int ch17), .val (.int ch19), .val (.int ch21), .unset, .unset, .unset, .unset, .unset, .unset] [(.int ch113)])) target → Steps p.tables e below (T21.setTop (mkF m 250 #[.val (.int p0), .val (.int p1), .val (.int p2), .val (.int p3), .val (.long q4), .second, .val (.int v1), .val (.int v2), .val (.ref a4), .val (.int v6), .val (.int nn8), .val (.int v10), .val (.int v12), .val (.int v13), .val (.int ch15), .val (.int ch17), .val (.int ch19), .val (.int ch21), .unset, .unset, .unset, .unset, .unset, .unset] [])) target := by
                      intro target kt
                      refine XS.iload X21.here hx rfl (hb hby at_250) rfl ?_
                      refine XS.aload X21.here hx rfl (hb hby at_252) rfl rfl ?_
                      show Steps p.tables e below (T21.setTop (mkF m 254 #[.val (.int p0), .val (.int p1), .val (.int p2), .val (.int p3), .val (.long q4), .second, .val (.int v1), .val (.int v2), .val (.ref a4), .val (.int v6), .val (.int nn8), .val (.int v10), .val (.int v12), .val (.int v13), .val (.int ch15), .val (.int ch17), .val (.int ch19), .val (.int ch21), .unset, .unset, .unset, .unset, .unset, .unset] [(.ref a4), (.int v1)])) _
                      refine XS.iconst X21.here hx rfl (hb hby at_254) ?_
                      refine XS.lload X21.here hx rfl (hb hby at_255) rfl ?_
                      refine st113 _ ?_
                      exact kt
                    refine Done.of ?_ K114
                    exact cut23 T113 _ ch113 ⟨X113, e113, N113, hb113⟩
            · intro cut21
              have K115 : ∀ target, Steps p.tables e below (T19.setTop (mkF m 208 #[.val (.int p0), .val (.int p1), .val (.int p2), .val (.int p3), .val (.long q4), .second, .val (.int v1), .val (.int v2), .val (.ref a4), .val (.int v6), .val (.int nn8), .val (.int v10), .val (.int v12), .val (.int v13), .val (.int ch15), .val (.int ch17), .val (.int ch19), .unset, .unset, .unset, .unset, .unset, .unset, .unset] [(.int v10)])) target → Steps p.tables e below (T19.setTop (mkF m 206 #[.val (.int p0), .val (.int p1), .val (.int p2), .val (.int p3), .val (.long q4), .second, .val (.int v1), .val (.int v2), .val (.ref a4), .val (.int v6), .val (.int nn8), .val (.int v10), .val (.int v12), .val (.int v13), .val (.int ch15), .val (.int ch17), .val (.int ch19), .unset, .unset, .unset, .unset, .unset, .unset, .unset] [])) target := by
                intro target kt
                refine XS.iload X19.here hx rfl (hb hby at_206) rfl ?_
                exact kt
              refine Done.of ?_ K115
              by_cases hc208_116 : v10 = (0 : Int32)
              · have K : ∀ target, Steps p.tables e below (T19.setTop (mkF m 222 #[.val (.int p0), .val (.int p1), .val (.int p2), .val (.int p3), .val (.long q4), .second, .val (.int v1), .val (.int v2), .val (.ref a4), .val (.int v6), .val (.int nn8), .val (.int v10), .val (.int v12), .val (.int v13), .val (.int ch15), .val (.int ch17), .val (.int ch19), .unset, .unset, .unset, .unset, .unset, .unset, .unset] [])) target → Steps p.tables e below (T19.setTop (mkF m 208 #[.val (.int p0), .val (.int p1), .val (.int p2), .val (.int p3), .val (.long q4), .second, .val (.int v1), .val (.int v2), .val (.ref a4), .val (.int v6), .val (.int nn8), .val (.int v10), .val (.int v12), .val (.int v13), .val (.int ch15), .val (.int ch17), .val (.int ch19), .unset, .unset, .unset, .unset, .unset, .unset, .unset] [(.int v10)])) target := by
                  intro target kt
                  refine XS.ifYes X19.here hx rfl (pc0 := 208) (pc' := 222) rfl (hb hby at_208) rfl ((if0 _ _).trans (teq hc208_116).1) (by decide) (by decide) ?_
                  exact kt
                refine Done.of ?_ K
                obtain ⟨_, _, ⟨T117, L117, k117, n117⟩, -, X117, ⟨Lc117, hQ117, l117, y117, z117⟩, st117⟩ := Jvm.LawKit.callS X19 hx (y := (⟨"com/example/ensyn/ensyn/region/NetClassNamedPinLaw", "pick", "(ILjava/lang/String;IJ)C"⟩ : MethodName)) hown4 (mvT hZ4 (hw _ (List.mem_of_getElem? (i := 22) rfl))) (mvT hZ4 (hw _ (List.mem_of_getElem? (i := 23) rfl))) (mvT hZ4 (hw _ (List.mem_of_getElem? (i := 24) rfl))) (mvT hZ4 (hw _ (List.mem_of_getElem? (i := 25) rfl))) (by decide) (backOf (W := 0) (rm3 l Z a0 hw [] v1 a4 (3 : Int32) q4 cs4 3 cz fm T4.heap n0 Z4 hT4 hb4 (S_COMPACT_STRINGS.ext (OZ.keep Kc4 all0).2) hcs (S_SIOOBE_FORMATTER.ext (OZ.keep Kc4 all0).2) hfm rfl (by decide)) hZ4 (hw _ (List.mem_of_getElem? (i := 25) rfl)) (hw _ (List.mem_of_getElem? (i := 24) rfl)) (by decide) (by decide)) (g := (mkF m 229 #[.val (.int p0), .val (.int p1), .val (.int p2), .val (.int p3), .val (.long q4), .second, .val (.int v1), .val (.int v2), .val (.ref a4), .val (.int v6), .val (.int nn8), .val (.int v10), .val (.int v12), .val (.int v13), .val (.int ch15), .val (.int ch17), .val (.int ch19), .unset, .unset, .unset, .unset, .unset, .unset, .unset] [(.long q4), (.int (3 : Int32)), (.ref a4), (.int v1)])) rfl (by rw [hml]; rfl) (argsL := [(.int v1), (.ref a4), (.int (3 : Int32)), (.long q4)]) (rest := []) (lenOf pd_14 rfl) rfl (by show 2 * 0 + _ ≤ _; exact Nat.le_of_eq rfl) (hb hby at_229) (fun _ _ => ⟨rfl, e19, (by decide : 2 + 0 ≤ _), (by decide : 24 + 0 ≤ _)⟩)
                dsimp only [Pt.U, Pt.locs, Pt.cells, Pt.slots] at X117 l117 y117 z117 st117 hQ117
                rw [l117, y117, z117] at X117
                obtain ⟨ch117, rfl, hb117, N117q, e117⟩ := hQ117
                have N117 := Fr.app N19 N117q
                have K118 : ∀ target, Steps p.tables e below (T117.setTop (mkF m 232 #[.val (.int p0), .val (.int p1), .val (.int p2), .val (.int p3), .val (.long q4), .second, .val (.int v1), .val (.int v2), .val (.ref a4), .val (.int v6), .val (.int nn8), .val (.int v10), .val (.int v12), .val (.int v13), .val (.int ch15), .val (.int ch17), .val (.int ch19), .unset, .unset, .unset, .unset, .unset, .unset, .unset] [(.int ch117)])) target → Steps p.tables e below (T19.setTop (mkF m 222 #[.val (.int p0), .val (.int p1), .val (.int p2), .val (.int p3), .val (.long q4), .second, .val (.int v1), .val (.int v2), .val (.ref a4), .val (.int v6), .val (.int nn8), .val (.int v10), .val (.int v12), .val (.int v13), .val (.int ch15), .val (.int ch17), .val (.int ch19), .unset, .unset, .unset, .unset, .unset, .unset, .unset] [])) target := by
                  intro target kt
                  show Steps p.tables e below (T19.setTop (mkF m 222 #[.val (.int p0), .val (.int p1), .val (.int p2), .val (.int p3), .val (.long q4), .second, .val (.int v1), .val (.int v2), .val (.ref a4), .val (.int v6), .val (.int nn8), .val (.int v10), .val (.int v12), .val (.int v13), .val (.int ch15), .val (.int ch17), .val (.int ch19), .unset, .unset, .unset, .unset, .unset, .unset, .unset] [])) _
                  refine XS.iload X19.here hx rfl (hb hby at_222) rfl ?_
                  refine XS.aload X19.here hx rfl (hb hby at_224) rfl rfl ?_
                  refine XS.iconst X19.here hx rfl (hb hby at_226) ?_
                  refine XS.lload X19.here hx rfl (hb hby at_227) rfl ?_
                  show Steps p.tables e below (T19.setTop (mkF m 229 #[.val (.int p0), .val (.int p1), .val (.int p2), .val (.int p3), .val (.long q4), .second, .val (.int v1), .val (.int v2), .val (.ref a4), .val (.int v6), .val (.int nn8), .val (.int v10), .val (.int v12), .val (.int v13), .val (.int ch15), .val (.int ch17), .val (.int ch19), .unset, .unset, .unset, .unset, .unset, .unset, .unset] [(.long q4), (.int (3 : Int32)), (.ref a4), (.int v1)])) _
                  refine st117 _ ?_
                  exact kt
                refine Done.of ?_ K118
                exact cut21 T117 _ ch117 ⟨X117, e117, N117, hb117⟩
              · have K : ∀ target, Steps p.tables e below (T19.setTop (mkF m 211 #[.val (.int p0), .val (.int p1), .val (.int p2), .val (.int p3), .val (.long q4), .second, .val (.int v1), .val (.int v2), .val (.ref a4), .val (.int v6), .val (.int nn8), .val (.int v10), .val (.int v12), .val (.int v13), .val (.int ch15), .val (.int ch17), .val (.int ch19), .unset, .unset, .unset, .unset, .unset, .unset, .unset] [])) target → Steps p.tables e below (T19.setTop (mkF m 208 #[.val (.int p0), .val (.int p1), .val (.int p2), .val (.int p3), .val (.long q4), .second, .val (.int v1), .val (.int v2), .val (.ref a4), .val (.int v6), .val (.int nn8), .val (.int v10), .val (.int v12), .val (.int v13), .val (.int ch15), .val (.int ch17), .val (.int ch19), .unset, .unset, .unset, .unset, .unset, .unset, .unset] [(.int v10)])) target := by
                  intro target kt
                  refine XS.ifNo X19.here hx rfl (hb hby at_208) rfl ((if0 _ _).trans (feq hc208_116).1) ?_
                  exact kt
                refine Done.of ?_ K
                have K119 : ∀ target, Steps p.tables e below (T19.setTop (mkF m 214 #[.val (.int p0), .val (.int p1), .val (.int p2), .val (.int p3), .val (.long q4), .second, .val (.int v1), .val (.int v2), .val (.ref a4), .val (.int v6), .val (.int nn8), .val (.int v10), .val (.int v12), .val (.int v13), .val (.int ch15), .val (.int ch17), .val (.int ch19), .unset, .unset, .unset, .unset, .unset, .unset, .unset] [(.int (3 : Int32)), (.int v12)])) target → Steps p.tables e below (T19.setTop (mkF m 211 #[.val (.int p0), .val (.int p1), .val (.int p2), .val (.int p3), .val (.long q4), .second, .val (.int v1), .val (.int v2), .val (.ref a4), .val (.int v6), .val (.int nn8), .val (.int v10), .val (.int v12), .val (.int v13), .val (.int ch15), .val (.int ch17), .val (.int ch19), .unset, .unset, .unset, .unset, .unset, .unset, .unset] [])) target := by
                  intro target kt
                  refine XS.iload X19.here hx rfl (hb hby at_211) rfl ?_
                  refine XS.iconst X19.here hx rfl (hb hby at_213) ?_
                  exact kt
                refine Done.of ?_ K119
                by_cases hc214_120 : v12 = (3 : Int32)
                · have K : ∀ target, Steps p.tables e below (T19.setTop (mkF m 217 #[.val (.int p0), .val (.int p1), .val (.int p2), .val (.int p3), .val (.long q4), .second, .val (.int v1), .val (.int v2), .val (.ref a4), .val (.int v6), .val (.int nn8), .val (.int v10), .val (.int v12), .val (.int v13), .val (.int ch15), .val (.int ch17), .val (.int ch19), .unset, .unset, .unset, .unset, .unset, .unset, .unset] [])) target → Steps p.tables e below (T19.setTop (mkF m 214 #[.val (.int p0), .val (.int p1), .val (.int p2), .val (.int p3), .val (.long q4), .second, .val (.int v1), .val (.int v2), .val (.ref a4), .val (.int v6), .val (.int nn8), .val (.int v10), .val (.int v12), .val (.int v13), .val (.int ch15), .val (.int ch17), .val (.int ch19), .unset, .unset, .unset, .unset, .unset, .unset, .unset] [(.int (3 : Int32)), (.int v12)])) target := by
                    intro target kt
                    refine XS.icmpNo X19.here hx rfl (hb hby at_214) rfl (teq hc214_120).2 ?_
                    exact kt
                  refine Done.of ?_ K
                  have K121 : ∀ target, Steps p.tables e below (T19.setTop (mkF m 232 #[.val (.int p0), .val (.int p1), .val (.int p2), .val (.int p3), .val (.long q4), .second, .val (.int v1), .val (.int v2), .val (.ref a4), .val (.int v6), .val (.int nn8), .val (.int v10), .val (.int v12), .val (.int v13), .val (.int ch15), .val (.int ch17), .val (.int ch19), .unset, .unset, .unset, .unset, .unset, .unset, .unset] [(.int v13)])) target → Steps p.tables e below (T19.setTop (mkF m 217 #[.val (.int p0), .val (.int p1), .val (.int p2), .val (.int p3), .val (.long q4), .second, .val (.int v1), .val (.int v2), .val (.ref a4), .val (.int v6), .val (.int nn8), .val (.int v10), .val (.int v12), .val (.int v13), .val (.int ch15), .val (.int ch17), .val (.int ch19), .unset, .unset, .unset, .unset, .unset, .unset, .unset] [])) target := by
                    intro target kt
                    refine XS.iload X19.here hx rfl (hb hby at_217) rfl ?_
                    show Steps p.tables e below (T19.setTop (mkF m 219 #[.val (.int p0), .val (.int p1), .val (.int p2), .val (.int p3), .val (.long q4), .second, .val (.int v1), .val (.int v2), .val (.ref a4), .val (.int v6), .val (.int nn8), .val (.int v10), .val (.int v12), .val (.int v13), .val (.int ch15), .val (.int ch17), .val (.int ch19), .unset, .unset, .unset, .unset, .unset, .unset, .unset] [(.int v13)])) _
                    refine XS.goto X19.here hx rfl (pc0 := 219) (pc' := 232) rfl (hb hby at_219) (by decide) (by decide) ?_
                    exact kt
                  refine Done.of ?_ K121
                  exact cut21 T19 _ v13 ⟨X19, e19, N19, (by rw [ev13]; exact own_mc p3)⟩
                · have K : ∀ target, Steps p.tables e below (T19.setTop (mkF m 222 #[.val (.int p0), .val (.int p1), .val (.int p2), .val (.int p3), .val (.long q4), .second, .val (.int v1), .val (.int v2), .val (.ref a4), .val (.int v6), .val (.int nn8), .val (.int v10), .val (.int v12), .val (.int v13), .val (.int ch15), .val (.int ch17), .val (.int ch19), .unset, .unset, .unset, .unset, .unset, .unset, .unset] [])) target → Steps p.tables e below (T19.setTop (mkF m 214 #[.val (.int p0), .val (.int p1), .val (.int p2), .val (.int p3), .val (.long q4), .second, .val (.int v1), .val (.int v2), .val (.ref a4), .val (.int v6), .val (.int nn8), .val (.int v10), .val (.int v12), .val (.int v13), .val (.int ch15), .val (.int ch17), .val (.int ch19), .unset, .unset, .unset, .unset, .unset, .unset, .unset] [(.int (3 : Int32)), (.int v12)])) target := by
                    intro target kt
                    refine XS.icmpYes X19.here hx rfl (pc0 := 214) (pc' := 222) rfl (hb hby at_214) rfl (feq hc214_120).2 (by decide) (by decide) ?_
                    exact kt
                  refine Done.of ?_ K
                  obtain ⟨_, _, ⟨T122, L122, k122, n122⟩, -, X122, ⟨Lc122, hQ122, l122, y122, z122⟩, st122⟩ := Jvm.LawKit.callS X19 hx (y := (⟨"com/example/ensyn/ensyn/region/NetClassNamedPinLaw", "pick", "(ILjava/lang/String;IJ)C"⟩ : MethodName)) hown4 (mvT hZ4 (hw _ (List.mem_of_getElem? (i := 22) rfl))) (mvT hZ4 (hw _ (List.mem_of_getElem? (i := 23) rfl))) (mvT hZ4 (hw _ (List.mem_of_getElem? (i := 24) rfl))) (mvT hZ4 (hw _ (List.mem_of_getElem? (i := 25) rfl))) (by decide) (backOf (W := 0) (rm3 l Z a0 hw [] v1 a4 (3 : Int32) q4 cs4 3 cz fm T4.heap n0 Z4 hT4 hb4 (S_COMPACT_STRINGS.ext (OZ.keep Kc4 all0).2) hcs (S_SIOOBE_FORMATTER.ext (OZ.keep Kc4 all0).2) hfm rfl (by decide)) hZ4 (hw _ (List.mem_of_getElem? (i := 25) rfl)) (hw _ (List.mem_of_getElem? (i := 24) rfl)) (by decide) (by decide)) (g := (mkF m 229 #[.val (.int p0), .val (.int p1), .val (.int p2), .val (.int p3), .val (.long q4), .second, .val (.int v1), .val (.int v2), .val (.ref a4), .val (.int v6), .val (.int nn8), .val (.int v10), .val (.int v12), .val (.int v13), .val (.int ch15), .val (.int ch17), .val (.int ch19), .unset, .unset, .unset, .unset, .unset, .unset, .unset] [(.long q4), (.int (3 : Int32)), (.ref a4), (.int v1)])) rfl (by rw [hml]; rfl) (argsL := [(.int v1), (.ref a4), (.int (3 : Int32)), (.long q4)]) (rest := []) (lenOf pd_14 rfl) rfl (by show 2 * 0 + _ ≤ _; exact Nat.le_of_eq rfl) (hb hby at_229) (fun _ _ => ⟨rfl, e19, (by decide : 2 + 0 ≤ _), (by decide : 24 + 0 ≤ _)⟩)
                  dsimp only [Pt.U, Pt.locs, Pt.cells, Pt.slots] at X122 l122 y122 z122 st122 hQ122
                  rw [l122, y122, z122] at X122
                  obtain ⟨ch122, rfl, hb122, N122q, e122⟩ := hQ122
                  have N122 := Fr.app N19 N122q
                  have K123 : ∀ target, Steps p.tables e below (T122.setTop (mkF m 232 #[.val (.int p0), .val (.int p1), .val (.int p2), .val (.int p3), .val (.long q4), .second, .val (.int v1), .val (.int v2), .val (.ref a4), .val (.int v6), .val (.int nn8), .val (.int v10), .val (.int v12), .val (.int v13), .val (.int ch15), .val (.int ch17), .val (.int ch19), .unset, .unset, .unset, .unset, .unset, .unset, .unset] [(.int ch122)])) target → Steps p.tables e below (T19.setTop (mkF m 222 #[.val (.int p0), .val (.int p1), .val (.int p2), .val (.int p3), .val (.long q4), .second, .val (.int v1), .val (.int v2), .val (.ref a4), .val (.int v6), .val (.int nn8), .val (.int v10), .val (.int v12), .val (.int v13), .val (.int ch15), .val (.int ch17), .val (.int ch19), .unset, .unset, .unset, .unset, .unset, .unset, .unset] [])) target := by
                    intro target kt
                    show Steps p.tables e below (T19.setTop (mkF m 222 #[.val (.int p0), .val (.int p1), .val (.int p2), .val (.int p3), .val (.long q4), .second, .val (.int v1), .val (.int v2), .val (.ref a4), .val (.int v6), .val (.int nn8), .val (.int v10), .val (.int v12), .val (.int v13), .val (.int ch15), .val (.int ch17), .val (.int ch19), .unset, .unset, .unset, .unset, .unset, .unset, .unset] [])) _
                    refine XS.iload X19.here hx rfl (hb hby at_222) rfl ?_
                    refine XS.aload X19.here hx rfl (hb hby at_224) rfl rfl ?_
                    refine XS.iconst X19.here hx rfl (hb hby at_226) ?_
                    refine XS.lload X19.here hx rfl (hb hby at_227) rfl ?_
                    show Steps p.tables e below (T19.setTop (mkF m 229 #[.val (.int p0), .val (.int p1), .val (.int p2), .val (.int p3), .val (.long q4), .second, .val (.int v1), .val (.int v2), .val (.ref a4), .val (.int v6), .val (.int nn8), .val (.int v10), .val (.int v12), .val (.int v13), .val (.int ch15), .val (.int ch17), .val (.int ch19), .unset, .unset, .unset, .unset, .unset, .unset, .unset] [(.long q4), (.int (3 : Int32)), (.ref a4), (.int v1)])) _
                    refine st122 _ ?_
                    exact kt
                  refine Done.of ?_ K123
                  exact cut21 T122 _ ch122 ⟨X122, e122, N122, hb122⟩
          · intro cut19
            have K124 : ∀ target, Steps p.tables e below (T17.setTop (mkF m 180 #[.val (.int p0), .val (.int p1), .val (.int p2), .val (.int p3), .val (.long q4), .second, .val (.int v1), .val (.int v2), .val (.ref a4), .val (.int v6), .val (.int nn8), .val (.int v10), .val (.int v12), .val (.int v13), .val (.int ch15), .val (.int ch17), .unset, .unset, .unset, .unset, .unset, .unset, .unset, .unset] [(.int v10)])) target → Steps p.tables e below (T17.setTop (mkF m 178 #[.val (.int p0), .val (.int p1), .val (.int p2), .val (.int p3), .val (.long q4), .second, .val (.int v1), .val (.int v2), .val (.ref a4), .val (.int v6), .val (.int nn8), .val (.int v10), .val (.int v12), .val (.int v13), .val (.int ch15), .val (.int ch17), .unset, .unset, .unset, .unset, .unset, .unset, .unset, .unset] [])) target := by
              intro target kt
              refine XS.iload X17.here hx rfl (hb hby at_178) rfl ?_
              exact kt
            refine Done.of ?_ K124
            by_cases hc180_125 : v10 = (0 : Int32)
            · have K : ∀ target, Steps p.tables e below (T17.setTop (mkF m 194 #[.val (.int p0), .val (.int p1), .val (.int p2), .val (.int p3), .val (.long q4), .second, .val (.int v1), .val (.int v2), .val (.ref a4), .val (.int v6), .val (.int nn8), .val (.int v10), .val (.int v12), .val (.int v13), .val (.int ch15), .val (.int ch17), .unset, .unset, .unset, .unset, .unset, .unset, .unset, .unset] [])) target → Steps p.tables e below (T17.setTop (mkF m 180 #[.val (.int p0), .val (.int p1), .val (.int p2), .val (.int p3), .val (.long q4), .second, .val (.int v1), .val (.int v2), .val (.ref a4), .val (.int v6), .val (.int nn8), .val (.int v10), .val (.int v12), .val (.int v13), .val (.int ch15), .val (.int ch17), .unset, .unset, .unset, .unset, .unset, .unset, .unset, .unset] [(.int v10)])) target := by
                intro target kt
                refine XS.ifYes X17.here hx rfl (pc0 := 180) (pc' := 194) rfl (hb hby at_180) rfl ((if0 _ _).trans (teq hc180_125).1) (by decide) (by decide) ?_
                exact kt
              refine Done.of ?_ K
              obtain ⟨_, _, ⟨T126, L126, k126, n126⟩, -, X126, ⟨Lc126, hQ126, l126, y126, z126⟩, st126⟩ := Jvm.LawKit.callS X17 hx (y := (⟨"com/example/ensyn/ensyn/region/NetClassNamedPinLaw", "pick", "(ILjava/lang/String;IJ)C"⟩ : MethodName)) hown4 (mvT hZ4 (hw _ (List.mem_of_getElem? (i := 22) rfl))) (mvT hZ4 (hw _ (List.mem_of_getElem? (i := 23) rfl))) (mvT hZ4 (hw _ (List.mem_of_getElem? (i := 24) rfl))) (mvT hZ4 (hw _ (List.mem_of_getElem? (i := 25) rfl))) (by decide) (backOf (W := 0) (rm3 l Z a0 hw [] v1 a4 (2 : Int32) q4 cs4 2 cz fm T4.heap n0 Z4 hT4 hb4 (S_COMPACT_STRINGS.ext (OZ.keep Kc4 all0).2) hcs (S_SIOOBE_FORMATTER.ext (OZ.keep Kc4 all0).2) hfm rfl (by decide)) hZ4 (hw _ (List.mem_of_getElem? (i := 25) rfl)) (hw _ (List.mem_of_getElem? (i := 24) rfl)) (by decide) (by decide)) (g := (mkF m 201 #[.val (.int p0), .val (.int p1), .val (.int p2), .val (.int p3), .val (.long q4), .second, .val (.int v1), .val (.int v2), .val (.ref a4), .val (.int v6), .val (.int nn8), .val (.int v10), .val (.int v12), .val (.int v13), .val (.int ch15), .val (.int ch17), .unset, .unset, .unset, .unset, .unset, .unset, .unset, .unset] [(.long q4), (.int (2 : Int32)), (.ref a4), (.int v1)])) rfl (by rw [hml]; rfl) (argsL := [(.int v1), (.ref a4), (.int (2 : Int32)), (.long q4)]) (rest := []) (lenOf pd_14 rfl) rfl (by show 2 * 0 + _ ≤ _; exact Nat.le_of_eq rfl) (hb hby at_201) (fun _ _ => ⟨rfl, e17, (by decide : 2 + 0 ≤ _), (by decide : 24 + 0 ≤ _)⟩)
              dsimp only [Pt.U, Pt.locs, Pt.cells, Pt.slots] at X126 l126 y126 z126 st126 hQ126
              rw [l126, y126, z126] at X126
              obtain ⟨ch126, rfl, hb126, N126q, e126⟩ := hQ126
              have N126 := Fr.app N17 N126q
              have K127 : ∀ target, Steps p.tables e below (T126.setTop (mkF m 204 #[.val (.int p0), .val (.int p1), .val (.int p2), .val (.int p3), .val (.long q4), .second, .val (.int v1), .val (.int v2), .val (.ref a4), .val (.int v6), .val (.int nn8), .val (.int v10), .val (.int v12), .val (.int v13), .val (.int ch15), .val (.int ch17), .unset, .unset, .unset, .unset, .unset, .unset, .unset, .unset] [(.int ch126)])) target → Steps p.tables e below (T17.setTop (mkF m 194 #[.val (.int p0), .val (.int p1), .val (.int p2), .val (.int p3), .val (.long q4), .second, .val (.int v1), .val (.int v2), .val (.ref a4), .val (.int v6), .val (.int nn8), .val (.int v10), .val (.int v12), .val (.int v13), .val (.int ch15), .val (.int ch17), .unset, .unset, .unset, .unset, .unset, .unset, .unset, .unset] [])) target := by
                intro target kt
                refine XS.iload X17.here hx rfl (hb hby at_194) rfl ?_
                refine XS.aload X17.here hx rfl (hb hby at_196) rfl rfl ?_
                show Steps p.tables e below (T17.setTop (mkF m 198 #[.val (.int p0), .val (.int p1), .val (.int p2), .val (.int p3), .val (.long q4), .second, .val (.int v1), .val (.int v2), .val (.ref a4), .val (.int v6), .val (.int nn8), .val (.int v10), .val (.int v12), .val (.int v13), .val (.int ch15), .val (.int ch17), .unset, .unset, .unset, .unset, .unset, .unset, .unset, .unset] [(.ref a4), (.int v1)])) _
                refine XS.iconst X17.here hx rfl (hb hby at_198) ?_
                refine XS.lload X17.here hx rfl (hb hby at_199) rfl ?_
                refine st126 _ ?_
                exact kt
              refine Done.of ?_ K127
              exact cut19 T126 _ ch126 ⟨X126, e126, N126, hb126⟩
            · have K : ∀ target, Steps p.tables e below (T17.setTop (mkF m 183 #[.val (.int p0), .val (.int p1), .val (.int p2), .val (.int p3), .val (.long q4), .second, .val (.int v1), .val (.int v2), .val (.ref a4), .val (.int v6), .val (.int nn8), .val (.int v10), .val (.int v12), .val (.int v13), .val (.int ch15), .val (.int ch17), .unset, .unset, .unset, .unset, .unset, .unset, .unset, .unset] [])) target → Steps p.tables e below (T17.setTop (mkF m 180 #[.val (.int p0), .val (.int p1), .val (.int p2), .val (.int p3), .val (.long q4), .second, .val (.int v1), .val (.int v2), .val (.ref a4), .val (.int v6), .val (.int nn8), .val (.int v10), .val (.int v12), .val (.int v13), .val (.int ch15), .val (.int ch17), .unset, .unset, .unset, .unset, .unset, .unset, .unset, .unset] [(.int v10)])) target := by
                intro target kt
                refine XS.ifNo X17.here hx rfl (hb hby at_180) rfl ((if0 _ _).trans (feq hc180_125).1) ?_
                exact kt
              refine Done.of ?_ K
              have K128 : ∀ target, Steps p.tables e below (T17.setTop (mkF m 186 #[.val (.int p0), .val (.int p1), .val (.int p2), .val (.int p3), .val (.long q4), .second, .val (.int v1), .val (.int v2), .val (.ref a4), .val (.int v6), .val (.int nn8), .val (.int v10), .val (.int v12), .val (.int v13), .val (.int ch15), .val (.int ch17), .unset, .unset, .unset, .unset, .unset, .unset, .unset, .unset] [(.int (2 : Int32)), (.int v12)])) target → Steps p.tables e below (T17.setTop (mkF m 183 #[.val (.int p0), .val (.int p1), .val (.int p2), .val (.int p3), .val (.long q4), .second, .val (.int v1), .val (.int v2), .val (.ref a4), .val (.int v6), .val (.int nn8), .val (.int v10), .val (.int v12), .val (.int v13), .val (.int ch15), .val (.int ch17), .unset, .unset, .unset, .unset, .unset, .unset, .unset, .unset] [])) target := by
                intro target kt
                refine XS.iload X17.here hx rfl (hb hby at_183) rfl ?_
                show Steps p.tables e below (T17.setTop (mkF m 185 #[.val (.int p0), .val (.int p1), .val (.int p2), .val (.int p3), .val (.long q4), .second, .val (.int v1), .val (.int v2), .val (.ref a4), .val (.int v6), .val (.int nn8), .val (.int v10), .val (.int v12), .val (.int v13), .val (.int ch15), .val (.int ch17), .unset, .unset, .unset, .unset, .unset, .unset, .unset, .unset] [(.int v12)])) _
                refine XS.iconst X17.here hx rfl (hb hby at_185) ?_
                exact kt
              refine Done.of ?_ K128
              by_cases hc186_129 : v12 = (2 : Int32)
              · have K : ∀ target, Steps p.tables e below (T17.setTop (mkF m 189 #[.val (.int p0), .val (.int p1), .val (.int p2), .val (.int p3), .val (.long q4), .second, .val (.int v1), .val (.int v2), .val (.ref a4), .val (.int v6), .val (.int nn8), .val (.int v10), .val (.int v12), .val (.int v13), .val (.int ch15), .val (.int ch17), .unset, .unset, .unset, .unset, .unset, .unset, .unset, .unset] [])) target → Steps p.tables e below (T17.setTop (mkF m 186 #[.val (.int p0), .val (.int p1), .val (.int p2), .val (.int p3), .val (.long q4), .second, .val (.int v1), .val (.int v2), .val (.ref a4), .val (.int v6), .val (.int nn8), .val (.int v10), .val (.int v12), .val (.int v13), .val (.int ch15), .val (.int ch17), .unset, .unset, .unset, .unset, .unset, .unset, .unset, .unset] [(.int (2 : Int32)), (.int v12)])) target := by
                  intro target kt
                  refine XS.icmpNo X17.here hx rfl (hb hby at_186) rfl (teq hc186_129).2 ?_
                  exact kt
                refine Done.of ?_ K
                have K130 : ∀ target, Steps p.tables e below (T17.setTop (mkF m 204 #[.val (.int p0), .val (.int p1), .val (.int p2), .val (.int p3), .val (.long q4), .second, .val (.int v1), .val (.int v2), .val (.ref a4), .val (.int v6), .val (.int nn8), .val (.int v10), .val (.int v12), .val (.int v13), .val (.int ch15), .val (.int ch17), .unset, .unset, .unset, .unset, .unset, .unset, .unset, .unset] [(.int v13)])) target → Steps p.tables e below (T17.setTop (mkF m 189 #[.val (.int p0), .val (.int p1), .val (.int p2), .val (.int p3), .val (.long q4), .second, .val (.int v1), .val (.int v2), .val (.ref a4), .val (.int v6), .val (.int nn8), .val (.int v10), .val (.int v12), .val (.int v13), .val (.int ch15), .val (.int ch17), .unset, .unset, .unset, .unset, .unset, .unset, .unset, .unset] [])) target := by
                  intro target kt
                  refine XS.iload X17.here hx rfl (hb hby at_189) rfl ?_
                  show Steps p.tables e below (T17.setTop (mkF m 191 #[.val (.int p0), .val (.int p1), .val (.int p2), .val (.int p3), .val (.long q4), .second, .val (.int v1), .val (.int v2), .val (.ref a4), .val (.int v6), .val (.int nn8), .val (.int v10), .val (.int v12), .val (.int v13), .val (.int ch15), .val (.int ch17), .unset, .unset, .unset, .unset, .unset, .unset, .unset, .unset] [(.int v13)])) _
                  refine XS.goto X17.here hx rfl (pc0 := 191) (pc' := 204) rfl (hb hby at_191) (by decide) (by decide) ?_
                  exact kt
                refine Done.of ?_ K130
                exact cut19 T17 _ v13 ⟨X17, e17, N17, (by rw [ev13]; exact own_mc p3)⟩
              · have K : ∀ target, Steps p.tables e below (T17.setTop (mkF m 194 #[.val (.int p0), .val (.int p1), .val (.int p2), .val (.int p3), .val (.long q4), .second, .val (.int v1), .val (.int v2), .val (.ref a4), .val (.int v6), .val (.int nn8), .val (.int v10), .val (.int v12), .val (.int v13), .val (.int ch15), .val (.int ch17), .unset, .unset, .unset, .unset, .unset, .unset, .unset, .unset] [])) target → Steps p.tables e below (T17.setTop (mkF m 186 #[.val (.int p0), .val (.int p1), .val (.int p2), .val (.int p3), .val (.long q4), .second, .val (.int v1), .val (.int v2), .val (.ref a4), .val (.int v6), .val (.int nn8), .val (.int v10), .val (.int v12), .val (.int v13), .val (.int ch15), .val (.int ch17), .unset, .unset, .unset, .unset, .unset, .unset, .unset, .unset] [(.int (2 : Int32)), (.int v12)])) target := by
                  intro target kt
                  refine XS.icmpYes X17.here hx rfl (pc0 := 186) (pc' := 194) rfl (hb hby at_186) rfl (feq hc186_129).2 (by decide) (by decide) ?_
                  exact kt
                refine Done.of ?_ K
                obtain ⟨_, _, ⟨T131, L131, k131, n131⟩, -, X131, ⟨Lc131, hQ131, l131, y131, z131⟩, st131⟩ := Jvm.LawKit.callS X17 hx (y := (⟨"com/example/ensyn/ensyn/region/NetClassNamedPinLaw", "pick", "(ILjava/lang/String;IJ)C"⟩ : MethodName)) hown4 (mvT hZ4 (hw _ (List.mem_of_getElem? (i := 22) rfl))) (mvT hZ4 (hw _ (List.mem_of_getElem? (i := 23) rfl))) (mvT hZ4 (hw _ (List.mem_of_getElem? (i := 24) rfl))) (mvT hZ4 (hw _ (List.mem_of_getElem? (i := 25) rfl))) (by decide) (backOf (W := 0) (rm3 l Z a0 hw [] v1 a4 (2 : Int32) q4 cs4 2 cz fm T4.heap n0 Z4 hT4 hb4 (S_COMPACT_STRINGS.ext (OZ.keep Kc4 all0).2) hcs (S_SIOOBE_FORMATTER.ext (OZ.keep Kc4 all0).2) hfm rfl (by decide)) hZ4 (hw _ (List.mem_of_getElem? (i := 25) rfl)) (hw _ (List.mem_of_getElem? (i := 24) rfl)) (by decide) (by decide)) (g := (mkF m 201 #[.val (.int p0), .val (.int p1), .val (.int p2), .val (.int p3), .val (.long q4), .second, .val (.int v1), .val (.int v2), .val (.ref a4), .val (.int v6), .val (.int nn8), .val (.int v10), .val (.int v12), .val (.int v13), .val (.int ch15), .val (.int ch17), .unset, .unset, .unset, .unset, .unset, .unset, .unset, .unset] [(.long q4), (.int (2 : Int32)), (.ref a4), (.int v1)])) rfl (by rw [hml]; rfl) (argsL := [(.int v1), (.ref a4), (.int (2 : Int32)), (.long q4)]) (rest := []) (lenOf pd_14 rfl) rfl (by show 2 * 0 + _ ≤ _; exact Nat.le_of_eq rfl) (hb hby at_201) (fun _ _ => ⟨rfl, e17, (by decide : 2 + 0 ≤ _), (by decide : 24 + 0 ≤ _)⟩)
                dsimp only [Pt.U, Pt.locs, Pt.cells, Pt.slots] at X131 l131 y131 z131 st131 hQ131
                rw [l131, y131, z131] at X131
                obtain ⟨ch131, rfl, hb131, N131q, e131⟩ := hQ131
                have N131 := Fr.app N17 N131q
                have K132 : ∀ target, Steps p.tables e below (T131.setTop (mkF m 204 #[.val (.int p0), .val (.int p1), .val (.int p2), .val (.int p3), .val (.long q4), .second, .val (.int v1), .val (.int v2), .val (.ref a4), .val (.int v6), .val (.int nn8), .val (.int v10), .val (.int v12), .val (.int v13), .val (.int ch15), .val (.int ch17), .unset, .unset, .unset, .unset, .unset, .unset, .unset, .unset] [(.int ch131)])) target → Steps p.tables e below (T17.setTop (mkF m 194 #[.val (.int p0), .val (.int p1), .val (.int p2), .val (.int p3), .val (.long q4), .second, .val (.int v1), .val (.int v2), .val (.ref a4), .val (.int v6), .val (.int nn8), .val (.int v10), .val (.int v12), .val (.int v13), .val (.int ch15), .val (.int ch17), .unset, .unset, .unset, .unset, .unset, .unset, .unset, .unset] [])) target := by
                  intro target kt
                  refine XS.iload X17.here hx rfl (hb hby at_194) rfl ?_
                  refine XS.aload X17.here hx rfl (hb hby at_196) rfl rfl ?_
                  show Steps p.tables e below (T17.setTop (mkF m 198 #[.val (.int p0), .val (.int p1), .val (.int p2), .val (.int p3), .val (.long q4), .second, .val (.int v1), .val (.int v2), .val (.ref a4), .val (.int v6), .val (.int nn8), .val (.int v10), .val (.int v12), .val (.int v13), .val (.int ch15), .val (.int ch17), .unset, .unset, .unset, .unset, .unset, .unset, .unset, .unset] [(.ref a4), (.int v1)])) _
                  refine XS.iconst X17.here hx rfl (hb hby at_198) ?_
                  refine XS.lload X17.here hx rfl (hb hby at_199) rfl ?_
                  refine st131 _ ?_
                  exact kt
                refine Done.of ?_ K132
                exact cut19 T131 _ ch131 ⟨X131, e131, N131, hb131⟩
        · intro cut17
          have K133 : ∀ target, Steps p.tables e below (T15.setTop (mkF m 152 #[.val (.int p0), .val (.int p1), .val (.int p2), .val (.int p3), .val (.long q4), .second, .val (.int v1), .val (.int v2), .val (.ref a4), .val (.int v6), .val (.int nn8), .val (.int v10), .val (.int v12), .val (.int v13), .val (.int ch15), .unset, .unset, .unset, .unset, .unset, .unset, .unset, .unset, .unset] [(.int v10)])) target → Steps p.tables e below (T15.setTop (mkF m 150 #[.val (.int p0), .val (.int p1), .val (.int p2), .val (.int p3), .val (.long q4), .second, .val (.int v1), .val (.int v2), .val (.ref a4), .val (.int v6), .val (.int nn8), .val (.int v10), .val (.int v12), .val (.int v13), .val (.int ch15), .unset, .unset, .unset, .unset, .unset, .unset, .unset, .unset, .unset] [])) target := by
            intro target kt
            refine XS.iload X15.here hx rfl (hb hby at_150) rfl ?_
            exact kt
          refine Done.of ?_ K133
          by_cases hc152_134 : v10 = (0 : Int32)
          · have K : ∀ target, Steps p.tables e below (T15.setTop (mkF m 166 #[.val (.int p0), .val (.int p1), .val (.int p2), .val (.int p3), .val (.long q4), .second, .val (.int v1), .val (.int v2), .val (.ref a4), .val (.int v6), .val (.int nn8), .val (.int v10), .val (.int v12), .val (.int v13), .val (.int ch15), .unset, .unset, .unset, .unset, .unset, .unset, .unset, .unset, .unset] [])) target → Steps p.tables e below (T15.setTop (mkF m 152 #[.val (.int p0), .val (.int p1), .val (.int p2), .val (.int p3), .val (.long q4), .second, .val (.int v1), .val (.int v2), .val (.ref a4), .val (.int v6), .val (.int nn8), .val (.int v10), .val (.int v12), .val (.int v13), .val (.int ch15), .unset, .unset, .unset, .unset, .unset, .unset, .unset, .unset, .unset] [(.int v10)])) target := by
              intro target kt
              refine XS.ifYes X15.here hx rfl (pc0 := 152) (pc' := 166) rfl (hb hby at_152) rfl ((if0 _ _).trans (teq hc152_134).1) (by decide) (by decide) ?_
              exact kt
            refine Done.of ?_ K
            obtain ⟨_, _, ⟨T135, L135, k135, n135⟩, -, X135, ⟨Lc135, hQ135, l135, y135, z135⟩, st135⟩ := Jvm.LawKit.callS X15 hx (y := (⟨"com/example/ensyn/ensyn/region/NetClassNamedPinLaw", "pick", "(ILjava/lang/String;IJ)C"⟩ : MethodName)) hown4 (mvT hZ4 (hw _ (List.mem_of_getElem? (i := 22) rfl))) (mvT hZ4 (hw _ (List.mem_of_getElem? (i := 23) rfl))) (mvT hZ4 (hw _ (List.mem_of_getElem? (i := 24) rfl))) (mvT hZ4 (hw _ (List.mem_of_getElem? (i := 25) rfl))) (by decide) (backOf (W := 0) (rm3 l Z a0 hw [] v1 a4 (1 : Int32) q4 cs4 1 cz fm T4.heap n0 Z4 hT4 hb4 (S_COMPACT_STRINGS.ext (OZ.keep Kc4 all0).2) hcs (S_SIOOBE_FORMATTER.ext (OZ.keep Kc4 all0).2) hfm rfl (by decide)) hZ4 (hw _ (List.mem_of_getElem? (i := 25) rfl)) (hw _ (List.mem_of_getElem? (i := 24) rfl)) (by decide) (by decide)) (g := (mkF m 173 #[.val (.int p0), .val (.int p1), .val (.int p2), .val (.int p3), .val (.long q4), .second, .val (.int v1), .val (.int v2), .val (.ref a4), .val (.int v6), .val (.int nn8), .val (.int v10), .val (.int v12), .val (.int v13), .val (.int ch15), .unset, .unset, .unset, .unset, .unset, .unset, .unset, .unset, .unset] [(.long q4), (.int (1 : Int32)), (.ref a4), (.int v1)])) rfl (by rw [hml]; rfl) (argsL := [(.int v1), (.ref a4), (.int (1 : Int32)), (.long q4)]) (rest := []) (lenOf pd_14 rfl) rfl (by show 2 * 0 + _ ≤ _; exact Nat.le_of_eq rfl) (hb hby at_173) (fun _ _ => ⟨rfl, e15, (by decide : 2 + 0 ≤ _), (by decide : 24 + 0 ≤ _)⟩)
            dsimp only [Pt.U, Pt.locs, Pt.cells, Pt.slots] at X135 l135 y135 z135 st135 hQ135
            rw [l135, y135, z135] at X135
            obtain ⟨ch135, rfl, hb135, N135q, e135⟩ := hQ135
            have N135 := Fr.app N15 N135q
            have K136 : ∀ target, Steps p.tables e below (T135.setTop (mkF m 176 #[.val (.int p0), .val (.int p1), .val (.int p2), .val (.int p3), .val (.long q4), .second, .val (.int v1), .val (.int v2), .val (.ref a4), .val (.int v6), .val (.int nn8), .val (.int v10), .val (.int v12), .val (.int v13), .val (.int ch15), .unset, .unset, .unset, .unset, .unset, .unset, .unset, .unset, .unset] [(.int ch135)])) target → Steps p.tables e below (T15.setTop (mkF m 166 #[.val (.int p0), .val (.int p1), .val (.int p2), .val (.int p3), .val (.long q4), .second, .val (.int v1), .val (.int v2), .val (.ref a4), .val (.int v6), .val (.int nn8), .val (.int v10), .val (.int v12), .val (.int v13), .val (.int ch15), .unset, .unset, .unset, .unset, .unset, .unset, .unset, .unset, .unset] [])) target := by
              intro target kt
              show Steps p.tables e below (T15.setTop (mkF m 166 #[.val (.int p0), .val (.int p1), .val (.int p2), .val (.int p3), .val (.long q4), .second, .val (.int v1), .val (.int v2), .val (.ref a4), .val (.int v6), .val (.int nn8), .val (.int v10), .val (.int v12), .val (.int v13), .val (.int ch15), .unset, .unset, .unset, .unset, .unset, .unset, .unset, .unset, .unset] [])) _
              refine XS.iload X15.here hx rfl (hb hby at_166) rfl ?_
              refine XS.aload X15.here hx rfl (hb hby at_168) rfl rfl ?_
              refine XS.iconst X15.here hx rfl (hb hby at_170) ?_
              refine XS.lload X15.here hx rfl (hb hby at_171) rfl ?_
              show Steps p.tables e below (T15.setTop (mkF m 173 #[.val (.int p0), .val (.int p1), .val (.int p2), .val (.int p3), .val (.long q4), .second, .val (.int v1), .val (.int v2), .val (.ref a4), .val (.int v6), .val (.int nn8), .val (.int v10), .val (.int v12), .val (.int v13), .val (.int ch15), .unset, .unset, .unset, .unset, .unset, .unset, .unset, .unset, .unset] [(.long q4), (.int (1 : Int32)), (.ref a4), (.int v1)])) _
              refine st135 _ ?_
              exact kt
            refine Done.of ?_ K136
            exact cut17 T135 _ ch135 ⟨X135, e135, N135, hb135⟩
          · have K : ∀ target, Steps p.tables e below (T15.setTop (mkF m 155 #[.val (.int p0), .val (.int p1), .val (.int p2), .val (.int p3), .val (.long q4), .second, .val (.int v1), .val (.int v2), .val (.ref a4), .val (.int v6), .val (.int nn8), .val (.int v10), .val (.int v12), .val (.int v13), .val (.int ch15), .unset, .unset, .unset, .unset, .unset, .unset, .unset, .unset, .unset] [])) target → Steps p.tables e below (T15.setTop (mkF m 152 #[.val (.int p0), .val (.int p1), .val (.int p2), .val (.int p3), .val (.long q4), .second, .val (.int v1), .val (.int v2), .val (.ref a4), .val (.int v6), .val (.int nn8), .val (.int v10), .val (.int v12), .val (.int v13), .val (.int ch15), .unset, .unset, .unset, .unset, .unset, .unset, .unset, .unset, .unset] [(.int v10)])) target := by
              intro target kt
              refine XS.ifNo X15.here hx rfl (hb hby at_152) rfl ((if0 _ _).trans (feq hc152_134).1) ?_
              exact kt
            refine Done.of ?_ K
            have K137 : ∀ target, Steps p.tables e below (T15.setTop (mkF m 158 #[.val (.int p0), .val (.int p1), .val (.int p2), .val (.int p3), .val (.long q4), .second, .val (.int v1), .val (.int v2), .val (.ref a4), .val (.int v6), .val (.int nn8), .val (.int v10), .val (.int v12), .val (.int v13), .val (.int ch15), .unset, .unset, .unset, .unset, .unset, .unset, .unset, .unset, .unset] [(.int (1 : Int32)), (.int v12)])) target → Steps p.tables e below (T15.setTop (mkF m 155 #[.val (.int p0), .val (.int p1), .val (.int p2), .val (.int p3), .val (.long q4), .second, .val (.int v1), .val (.int v2), .val (.ref a4), .val (.int v6), .val (.int nn8), .val (.int v10), .val (.int v12), .val (.int v13), .val (.int ch15), .unset, .unset, .unset, .unset, .unset, .unset, .unset, .unset, .unset] [])) target := by
              intro target kt
              refine XS.iload X15.here hx rfl (hb hby at_155) rfl ?_
              refine XS.iconst X15.here hx rfl (hb hby at_157) ?_
              exact kt
            refine Done.of ?_ K137
            by_cases hc158_138 : v12 = (1 : Int32)
            · have K : ∀ target, Steps p.tables e below (T15.setTop (mkF m 161 #[.val (.int p0), .val (.int p1), .val (.int p2), .val (.int p3), .val (.long q4), .second, .val (.int v1), .val (.int v2), .val (.ref a4), .val (.int v6), .val (.int nn8), .val (.int v10), .val (.int v12), .val (.int v13), .val (.int ch15), .unset, .unset, .unset, .unset, .unset, .unset, .unset, .unset, .unset] [])) target → Steps p.tables e below (T15.setTop (mkF m 158 #[.val (.int p0), .val (.int p1), .val (.int p2), .val (.int p3), .val (.long q4), .second, .val (.int v1), .val (.int v2), .val (.ref a4), .val (.int v6), .val (.int nn8), .val (.int v10), .val (.int v12), .val (.int v13), .val (.int ch15), .unset, .unset, .unset, .unset, .unset, .unset, .unset, .unset, .unset] [(.int (1 : Int32)), (.int v12)])) target := by
                intro target kt
                refine XS.icmpNo X15.here hx rfl (hb hby at_158) rfl (teq hc158_138).2 ?_
                exact kt
              refine Done.of ?_ K
              have K139 : ∀ target, Steps p.tables e below (T15.setTop (mkF m 176 #[.val (.int p0), .val (.int p1), .val (.int p2), .val (.int p3), .val (.long q4), .second, .val (.int v1), .val (.int v2), .val (.ref a4), .val (.int v6), .val (.int nn8), .val (.int v10), .val (.int v12), .val (.int v13), .val (.int ch15), .unset, .unset, .unset, .unset, .unset, .unset, .unset, .unset, .unset] [(.int v13)])) target → Steps p.tables e below (T15.setTop (mkF m 161 #[.val (.int p0), .val (.int p1), .val (.int p2), .val (.int p3), .val (.long q4), .second, .val (.int v1), .val (.int v2), .val (.ref a4), .val (.int v6), .val (.int nn8), .val (.int v10), .val (.int v12), .val (.int v13), .val (.int ch15), .unset, .unset, .unset, .unset, .unset, .unset, .unset, .unset, .unset] [])) target := by
                intro target kt
                refine XS.iload X15.here hx rfl (hb hby at_161) rfl ?_
                show Steps p.tables e below (T15.setTop (mkF m 163 #[.val (.int p0), .val (.int p1), .val (.int p2), .val (.int p3), .val (.long q4), .second, .val (.int v1), .val (.int v2), .val (.ref a4), .val (.int v6), .val (.int nn8), .val (.int v10), .val (.int v12), .val (.int v13), .val (.int ch15), .unset, .unset, .unset, .unset, .unset, .unset, .unset, .unset, .unset] [(.int v13)])) _
                refine XS.goto X15.here hx rfl (pc0 := 163) (pc' := 176) rfl (hb hby at_163) (by decide) (by decide) ?_
                exact kt
              refine Done.of ?_ K139
              exact cut17 T15 _ v13 ⟨X15, e15, N15, (by rw [ev13]; exact own_mc p3)⟩
            · have K : ∀ target, Steps p.tables e below (T15.setTop (mkF m 166 #[.val (.int p0), .val (.int p1), .val (.int p2), .val (.int p3), .val (.long q4), .second, .val (.int v1), .val (.int v2), .val (.ref a4), .val (.int v6), .val (.int nn8), .val (.int v10), .val (.int v12), .val (.int v13), .val (.int ch15), .unset, .unset, .unset, .unset, .unset, .unset, .unset, .unset, .unset] [])) target → Steps p.tables e below (T15.setTop (mkF m 158 #[.val (.int p0), .val (.int p1), .val (.int p2), .val (.int p3), .val (.long q4), .second, .val (.int v1), .val (.int v2), .val (.ref a4), .val (.int v6), .val (.int nn8), .val (.int v10), .val (.int v12), .val (.int v13), .val (.int ch15), .unset, .unset, .unset, .unset, .unset, .unset, .unset, .unset, .unset] [(.int (1 : Int32)), (.int v12)])) target := by
                intro target kt
                refine XS.icmpYes X15.here hx rfl (pc0 := 158) (pc' := 166) rfl (hb hby at_158) rfl (feq hc158_138).2 (by decide) (by decide) ?_
                exact kt
              refine Done.of ?_ K
              obtain ⟨_, _, ⟨T140, L140, k140, n140⟩, -, X140, ⟨Lc140, hQ140, l140, y140, z140⟩, st140⟩ := Jvm.LawKit.callS X15 hx (y := (⟨"com/example/ensyn/ensyn/region/NetClassNamedPinLaw", "pick", "(ILjava/lang/String;IJ)C"⟩ : MethodName)) hown4 (mvT hZ4 (hw _ (List.mem_of_getElem? (i := 22) rfl))) (mvT hZ4 (hw _ (List.mem_of_getElem? (i := 23) rfl))) (mvT hZ4 (hw _ (List.mem_of_getElem? (i := 24) rfl))) (mvT hZ4 (hw _ (List.mem_of_getElem? (i := 25) rfl))) (by decide) (backOf (W := 0) (rm3 l Z a0 hw [] v1 a4 (1 : Int32) q4 cs4 1 cz fm T4.heap n0 Z4 hT4 hb4 (S_COMPACT_STRINGS.ext (OZ.keep Kc4 all0).2) hcs (S_SIOOBE_FORMATTER.ext (OZ.keep Kc4 all0).2) hfm rfl (by decide)) hZ4 (hw _ (List.mem_of_getElem? (i := 25) rfl)) (hw _ (List.mem_of_getElem? (i := 24) rfl)) (by decide) (by decide)) (g := (mkF m 173 #[.val (.int p0), .val (.int p1), .val (.int p2), .val (.int p3), .val (.long q4), .second, .val (.int v1), .val (.int v2), .val (.ref a4), .val (.int v6), .val (.int nn8), .val (.int v10), .val (.int v12), .val (.int v13), .val (.int ch15), .unset, .unset, .unset, .unset, .unset, .unset, .unset, .unset, .unset] [(.long q4), (.int (1 : Int32)), (.ref a4), (.int v1)])) rfl (by rw [hml]; rfl) (argsL := [(.int v1), (.ref a4), (.int (1 : Int32)), (.long q4)]) (rest := []) (lenOf pd_14 rfl) rfl (by show 2 * 0 + _ ≤ _; exact Nat.le_of_eq rfl) (hb hby at_173) (fun _ _ => ⟨rfl, e15, (by decide : 2 + 0 ≤ _), (by decide : 24 + 0 ≤ _)⟩)
              dsimp only [Pt.U, Pt.locs, Pt.cells, Pt.slots] at X140 l140 y140 z140 st140 hQ140
              rw [l140, y140, z140] at X140
              obtain ⟨ch140, rfl, hb140, N140q, e140⟩ := hQ140
              have N140 := Fr.app N15 N140q
              have K141 : ∀ target, Steps p.tables e below (T140.setTop (mkF m 176 #[.val (.int p0), .val (.int p1), .val (.int p2), .val (.int p3), .val (.long q4), .second, .val (.int v1), .val (.int v2), .val (.ref a4), .val (.int v6), .val (.int nn8), .val (.int v10), .val (.int v12), .val (.int v13), .val (.int ch15), .unset, .unset, .unset, .unset, .unset, .unset, .unset, .unset, .unset] [(.int ch140)])) target → Steps p.tables e below (T15.setTop (mkF m 166 #[.val (.int p0), .val (.int p1), .val (.int p2), .val (.int p3), .val (.long q4), .second, .val (.int v1), .val (.int v2), .val (.ref a4), .val (.int v6), .val (.int nn8), .val (.int v10), .val (.int v12), .val (.int v13), .val (.int ch15), .unset, .unset, .unset, .unset, .unset, .unset, .unset, .unset, .unset] [])) target := by
                intro target kt
                show Steps p.tables e below (T15.setTop (mkF m 166 #[.val (.int p0), .val (.int p1), .val (.int p2), .val (.int p3), .val (.long q4), .second, .val (.int v1), .val (.int v2), .val (.ref a4), .val (.int v6), .val (.int nn8), .val (.int v10), .val (.int v12), .val (.int v13), .val (.int ch15), .unset, .unset, .unset, .unset, .unset, .unset, .unset, .unset, .unset] [])) _
                refine XS.iload X15.here hx rfl (hb hby at_166) rfl ?_
                refine XS.aload X15.here hx rfl (hb hby at_168) rfl rfl ?_
                refine XS.iconst X15.here hx rfl (hb hby at_170) ?_
                refine XS.lload X15.here hx rfl (hb hby at_171) rfl ?_
                show Steps p.tables e below (T15.setTop (mkF m 173 #[.val (.int p0), .val (.int p1), .val (.int p2), .val (.int p3), .val (.long q4), .second, .val (.int v1), .val (.int v2), .val (.ref a4), .val (.int v6), .val (.int nn8), .val (.int v10), .val (.int v12), .val (.int v13), .val (.int ch15), .unset, .unset, .unset, .unset, .unset, .unset, .unset, .unset, .unset] [(.long q4), (.int (1 : Int32)), (.ref a4), (.int v1)])) _
                refine st140 _ ?_
                exact kt
              refine Done.of ?_ K141
              exact cut17 T140 _ ch140 ⟨X140, e140, N140, hb140⟩
      · intro cut15
        have K142 : ∀ target, Steps p.tables e below (T8.setTop (mkF m 125 #[.val (.int p0), .val (.int p1), .val (.int p2), .val (.int p3), .val (.long q4), .second, .val (.int v1), .val (.int v2), .val (.ref a4), .val (.int v6), .val (.int nn8), .val (.int v10), .val (.int v12), .val (.int v13), .unset, .unset, .unset, .unset, .unset, .unset, .unset, .unset, .unset, .unset] [(.int v10)])) target → Steps p.tables e below (T8.setTop (mkF m 123 #[.val (.int p0), .val (.int p1), .val (.int p2), .val (.int p3), .val (.long q4), .second, .val (.int v1), .val (.int v2), .val (.ref a4), .val (.int v6), .val (.int nn8), .val (.int v10), .val (.int v12), .val (.int v13), .unset, .unset, .unset, .unset, .unset, .unset, .unset, .unset, .unset, .unset] [])) target := by
          intro target kt
          refine XS.iload X8.here hx rfl (hb hby at_123) rfl ?_
          exact kt
        refine Done.of ?_ K142
        by_cases hc125_143 : v10 = (0 : Int32)
        · have K : ∀ target, Steps p.tables e below (T8.setTop (mkF m 138 #[.val (.int p0), .val (.int p1), .val (.int p2), .val (.int p3), .val (.long q4), .second, .val (.int v1), .val (.int v2), .val (.ref a4), .val (.int v6), .val (.int nn8), .val (.int v10), .val (.int v12), .val (.int v13), .unset, .unset, .unset, .unset, .unset, .unset, .unset, .unset, .unset, .unset] [])) target → Steps p.tables e below (T8.setTop (mkF m 125 #[.val (.int p0), .val (.int p1), .val (.int p2), .val (.int p3), .val (.long q4), .second, .val (.int v1), .val (.int v2), .val (.ref a4), .val (.int v6), .val (.int nn8), .val (.int v10), .val (.int v12), .val (.int v13), .unset, .unset, .unset, .unset, .unset, .unset, .unset, .unset, .unset, .unset] [(.int v10)])) target := by
            intro target kt
            refine XS.ifYes X8.here hx rfl (pc0 := 125) (pc' := 138) rfl (hb hby at_125) rfl ((if0 _ _).trans (teq hc125_143).1) (by decide) (by decide) ?_
            exact kt
          refine Done.of ?_ K
          obtain ⟨_, _, ⟨T144, L144, k144, n144⟩, -, X144, ⟨Lc144, hQ144, l144, y144, z144⟩, st144⟩ := Jvm.LawKit.callS X8 hx (y := (⟨"com/example/ensyn/ensyn/region/NetClassNamedPinLaw", "pick", "(ILjava/lang/String;IJ)C"⟩ : MethodName)) hown4 (mvT hZ4 (hw _ (List.mem_of_getElem? (i := 22) rfl))) (mvT hZ4 (hw _ (List.mem_of_getElem? (i := 23) rfl))) (mvT hZ4 (hw _ (List.mem_of_getElem? (i := 24) rfl))) (mvT hZ4 (hw _ (List.mem_of_getElem? (i := 25) rfl))) (by decide) (backOf (W := 0) (rm3 l Z a0 hw [] v1 a4 (0 : Int32) q4 cs4 0 cz fm T4.heap n0 Z4 hT4 hb4 (S_COMPACT_STRINGS.ext (OZ.keep Kc4 all0).2) hcs (S_SIOOBE_FORMATTER.ext (OZ.keep Kc4 all0).2) hfm rfl (by decide)) hZ4 (hw _ (List.mem_of_getElem? (i := 25) rfl)) (hw _ (List.mem_of_getElem? (i := 24) rfl)) (by decide) (by decide)) (g := (mkF m 145 #[.val (.int p0), .val (.int p1), .val (.int p2), .val (.int p3), .val (.long q4), .second, .val (.int v1), .val (.int v2), .val (.ref a4), .val (.int v6), .val (.int nn8), .val (.int v10), .val (.int v12), .val (.int v13), .unset, .unset, .unset, .unset, .unset, .unset, .unset, .unset, .unset, .unset] [(.long q4), (.int (0 : Int32)), (.ref a4), (.int v1)])) rfl (by rw [hml]; rfl) (argsL := [(.int v1), (.ref a4), (.int (0 : Int32)), (.long q4)]) (rest := []) (lenOf pd_14 rfl) rfl (by show 2 * 0 + _ ≤ _; exact Nat.le_of_eq rfl) (hb hby at_145) (fun _ _ => ⟨rfl, e8, (by decide : 2 + 0 ≤ _), (by decide : 24 + 0 ≤ _)⟩)
          dsimp only [Pt.U, Pt.locs, Pt.cells, Pt.slots] at X144 l144 y144 z144 st144 hQ144
          rw [l144, y144, z144] at X144
          obtain ⟨ch144, rfl, hb144, N144q, e144⟩ := hQ144
          have N144 := Fr.app N8 N144q
          have K145 : ∀ target, Steps p.tables e below (T144.setTop (mkF m 148 #[.val (.int p0), .val (.int p1), .val (.int p2), .val (.int p3), .val (.long q4), .second, .val (.int v1), .val (.int v2), .val (.ref a4), .val (.int v6), .val (.int nn8), .val (.int v10), .val (.int v12), .val (.int v13), .unset, .unset, .unset, .unset, .unset, .unset, .unset, .unset, .unset, .unset] [(.int ch144)])) target → Steps p.tables e below (T8.setTop (mkF m 138 #[.val (.int p0), .val (.int p1), .val (.int p2), .val (.int p3), .val (.long q4), .second, .val (.int v1), .val (.int v2), .val (.ref a4), .val (.int v6), .val (.int nn8), .val (.int v10), .val (.int v12), .val (.int v13), .unset, .unset, .unset, .unset, .unset, .unset, .unset, .unset, .unset, .unset] [])) target := by
            intro target kt
            refine XS.iload X8.here hx rfl (hb hby at_138) rfl ?_
            refine XS.aload X8.here hx rfl (hb hby at_140) rfl rfl ?_
            show Steps p.tables e below (T8.setTop (mkF m 142 #[.val (.int p0), .val (.int p1), .val (.int p2), .val (.int p3), .val (.long q4), .second, .val (.int v1), .val (.int v2), .val (.ref a4), .val (.int v6), .val (.int nn8), .val (.int v10), .val (.int v12), .val (.int v13), .unset, .unset, .unset, .unset, .unset, .unset, .unset, .unset, .unset, .unset] [(.ref a4), (.int v1)])) _
            refine XS.iconst X8.here hx rfl (hb hby at_142) ?_
            refine XS.lload X8.here hx rfl (hb hby at_143) rfl ?_
            refine st144 _ ?_
            exact kt
          refine Done.of ?_ K145
          exact cut15 T144 _ ch144 ⟨X144, e144, N144, hb144⟩
        · have K : ∀ target, Steps p.tables e below (T8.setTop (mkF m 128 #[.val (.int p0), .val (.int p1), .val (.int p2), .val (.int p3), .val (.long q4), .second, .val (.int v1), .val (.int v2), .val (.ref a4), .val (.int v6), .val (.int nn8), .val (.int v10), .val (.int v12), .val (.int v13), .unset, .unset, .unset, .unset, .unset, .unset, .unset, .unset, .unset, .unset] [])) target → Steps p.tables e below (T8.setTop (mkF m 125 #[.val (.int p0), .val (.int p1), .val (.int p2), .val (.int p3), .val (.long q4), .second, .val (.int v1), .val (.int v2), .val (.ref a4), .val (.int v6), .val (.int nn8), .val (.int v10), .val (.int v12), .val (.int v13), .unset, .unset, .unset, .unset, .unset, .unset, .unset, .unset, .unset, .unset] [(.int v10)])) target := by
            intro target kt
            refine XS.ifNo X8.here hx rfl (hb hby at_125) rfl ((if0 _ _).trans (feq hc125_143).1) ?_
            exact kt
          refine Done.of ?_ K
          have K146 : ∀ target, Steps p.tables e below (T8.setTop (mkF m 130 #[.val (.int p0), .val (.int p1), .val (.int p2), .val (.int p3), .val (.long q4), .second, .val (.int v1), .val (.int v2), .val (.ref a4), .val (.int v6), .val (.int nn8), .val (.int v10), .val (.int v12), .val (.int v13), .unset, .unset, .unset, .unset, .unset, .unset, .unset, .unset, .unset, .unset] [(.int v12)])) target → Steps p.tables e below (T8.setTop (mkF m 128 #[.val (.int p0), .val (.int p1), .val (.int p2), .val (.int p3), .val (.long q4), .second, .val (.int v1), .val (.int v2), .val (.ref a4), .val (.int v6), .val (.int nn8), .val (.int v10), .val (.int v12), .val (.int v13), .unset, .unset, .unset, .unset, .unset, .unset, .unset, .unset, .unset, .unset] [])) target := by
            intro target kt
            refine XS.iload X8.here hx rfl (hb hby at_128) rfl ?_
            exact kt
          refine Done.of ?_ K146
          by_cases hc130_147 : v12 = (0 : Int32)
          · have K : ∀ target, Steps p.tables e below (T8.setTop (mkF m 133 #[.val (.int p0), .val (.int p1), .val (.int p2), .val (.int p3), .val (.long q4), .second, .val (.int v1), .val (.int v2), .val (.ref a4), .val (.int v6), .val (.int nn8), .val (.int v10), .val (.int v12), .val (.int v13), .unset, .unset, .unset, .unset, .unset, .unset, .unset, .unset, .unset, .unset] [])) target → Steps p.tables e below (T8.setTop (mkF m 130 #[.val (.int p0), .val (.int p1), .val (.int p2), .val (.int p3), .val (.long q4), .second, .val (.int v1), .val (.int v2), .val (.ref a4), .val (.int v6), .val (.int nn8), .val (.int v10), .val (.int v12), .val (.int v13), .unset, .unset, .unset, .unset, .unset, .unset, .unset, .unset, .unset, .unset] [(.int v12)])) target := by
              intro target kt
              refine XS.ifNo X8.here hx rfl (hb hby at_130) rfl ((if0 _ _).trans (teq hc130_147).2) ?_
              exact kt
            refine Done.of ?_ K
            have K148 : ∀ target, Steps p.tables e below (T8.setTop (mkF m 148 #[.val (.int p0), .val (.int p1), .val (.int p2), .val (.int p3), .val (.long q4), .second, .val (.int v1), .val (.int v2), .val (.ref a4), .val (.int v6), .val (.int nn8), .val (.int v10), .val (.int v12), .val (.int v13), .unset, .unset, .unset, .unset, .unset, .unset, .unset, .unset, .unset, .unset] [(.int v13)])) target → Steps p.tables e below (T8.setTop (mkF m 133 #[.val (.int p0), .val (.int p1), .val (.int p2), .val (.int p3), .val (.long q4), .second, .val (.int v1), .val (.int v2), .val (.ref a4), .val (.int v6), .val (.int nn8), .val (.int v10), .val (.int v12), .val (.int v13), .unset, .unset, .unset, .unset, .unset, .unset, .unset, .unset, .unset, .unset] [])) target := by
              intro target kt
              show Steps p.tables e below (T8.setTop (mkF m 133 #[.val (.int p0), .val (.int p1), .val (.int p2), .val (.int p3), .val (.long q4), .second, .val (.int v1), .val (.int v2), .val (.ref a4), .val (.int v6), .val (.int nn8), .val (.int v10), .val (.int v12), .val (.int v13), .unset, .unset, .unset, .unset, .unset, .unset, .unset, .unset, .unset, .unset] [])) _
              refine XS.iload X8.here hx rfl (hb hby at_133) rfl ?_
              show Steps p.tables e below (T8.setTop (mkF m 135 #[.val (.int p0), .val (.int p1), .val (.int p2), .val (.int p3), .val (.long q4), .second, .val (.int v1), .val (.int v2), .val (.ref a4), .val (.int v6), .val (.int nn8), .val (.int v10), .val (.int v12), .val (.int v13), .unset, .unset, .unset, .unset, .unset, .unset, .unset, .unset, .unset, .unset] [(.int v13)])) _
              refine XS.goto X8.here hx rfl (pc0 := 135) (pc' := 148) rfl (hb hby at_135) (by decide) (by decide) ?_
              exact kt
            refine Done.of ?_ K148
            exact cut15 T8 _ v13 ⟨X8, e8, N8, (by rw [ev13]; exact own_mc p3)⟩
          · have K : ∀ target, Steps p.tables e below (T8.setTop (mkF m 138 #[.val (.int p0), .val (.int p1), .val (.int p2), .val (.int p3), .val (.long q4), .second, .val (.int v1), .val (.int v2), .val (.ref a4), .val (.int v6), .val (.int nn8), .val (.int v10), .val (.int v12), .val (.int v13), .unset, .unset, .unset, .unset, .unset, .unset, .unset, .unset, .unset, .unset] [])) target → Steps p.tables e below (T8.setTop (mkF m 130 #[.val (.int p0), .val (.int p1), .val (.int p2), .val (.int p3), .val (.long q4), .second, .val (.int v1), .val (.int v2), .val (.ref a4), .val (.int v6), .val (.int nn8), .val (.int v10), .val (.int v12), .val (.int v13), .unset, .unset, .unset, .unset, .unset, .unset, .unset, .unset, .unset, .unset] [(.int v12)])) target := by
              intro target kt
              refine XS.ifYes X8.here hx rfl (pc0 := 130) (pc' := 138) rfl (hb hby at_130) rfl ((if0 _ _).trans (feq hc130_147).2) (by decide) (by decide) ?_
              exact kt
            refine Done.of ?_ K
            obtain ⟨_, _, ⟨T149, L149, k149, n149⟩, -, X149, ⟨Lc149, hQ149, l149, y149, z149⟩, st149⟩ := Jvm.LawKit.callS X8 hx (y := (⟨"com/example/ensyn/ensyn/region/NetClassNamedPinLaw", "pick", "(ILjava/lang/String;IJ)C"⟩ : MethodName)) hown4 (mvT hZ4 (hw _ (List.mem_of_getElem? (i := 22) rfl))) (mvT hZ4 (hw _ (List.mem_of_getElem? (i := 23) rfl))) (mvT hZ4 (hw _ (List.mem_of_getElem? (i := 24) rfl))) (mvT hZ4 (hw _ (List.mem_of_getElem? (i := 25) rfl))) (by decide) (backOf (W := 0) (rm3 l Z a0 hw [] v1 a4 (0 : Int32) q4 cs4 0 cz fm T4.heap n0 Z4 hT4 hb4 (S_COMPACT_STRINGS.ext (OZ.keep Kc4 all0).2) hcs (S_SIOOBE_FORMATTER.ext (OZ.keep Kc4 all0).2) hfm rfl (by decide)) hZ4 (hw _ (List.mem_of_getElem? (i := 25) rfl)) (hw _ (List.mem_of_getElem? (i := 24) rfl)) (by decide) (by decide)) (g := (mkF m 145 #[.val (.int p0), .val (.int p1), .val (.int p2), .val (.int p3), .val (.long q4), .second, .val (.int v1), .val (.int v2), .val (.ref a4), .val (.int v6), .val (.int nn8), .val (.int v10), .val (.int v12), .val (.int v13), .unset, .unset, .unset, .unset, .unset, .unset, .unset, .unset, .unset, .unset] [(.long q4), (.int (0 : Int32)), (.ref a4), (.int v1)])) rfl (by rw [hml]; rfl) (argsL := [(.int v1), (.ref a4), (.int (0 : Int32)), (.long q4)]) (rest := []) (lenOf pd_14 rfl) rfl (by show 2 * 0 + _ ≤ _; exact Nat.le_of_eq rfl) (hb hby at_145) (fun _ _ => ⟨rfl, e8, (by decide : 2 + 0 ≤ _), (by decide : 24 + 0 ≤ _)⟩)
            dsimp only [Pt.U, Pt.locs, Pt.cells, Pt.slots] at X149 l149 y149 z149 st149 hQ149
            rw [l149, y149, z149] at X149
            obtain ⟨ch149, rfl, hb149, N149q, e149⟩ := hQ149
            have N149 := Fr.app N8 N149q
            have K150 : ∀ target, Steps p.tables e below (T149.setTop (mkF m 148 #[.val (.int p0), .val (.int p1), .val (.int p2), .val (.int p3), .val (.long q4), .second, .val (.int v1), .val (.int v2), .val (.ref a4), .val (.int v6), .val (.int nn8), .val (.int v10), .val (.int v12), .val (.int v13), .unset, .unset, .unset, .unset, .unset, .unset, .unset, .unset, .unset, .unset] [(.int ch149)])) target → Steps p.tables e below (T8.setTop (mkF m 138 #[.val (.int p0), .val (.int p1), .val (.int p2), .val (.int p3), .val (.long q4), .second, .val (.int v1), .val (.int v2), .val (.ref a4), .val (.int v6), .val (.int nn8), .val (.int v10), .val (.int v12), .val (.int v13), .unset, .unset, .unset, .unset, .unset, .unset, .unset, .unset, .unset, .unset] [])) target := by
              intro target kt
              refine XS.iload X8.here hx rfl (hb hby at_138) rfl ?_
              refine XS.aload X8.here hx rfl (hb hby at_140) rfl rfl ?_
              refine XS.iconst X8.here hx rfl (hb hby at_142) ?_
              show Steps p.tables e below (T8.setTop (mkF m 143 #[.val (.int p0), .val (.int p1), .val (.int p2), .val (.int p3), .val (.long q4), .second, .val (.int v1), .val (.int v2), .val (.ref a4), .val (.int v6), .val (.int nn8), .val (.int v10), .val (.int v12), .val (.int v13), .unset, .unset, .unset, .unset, .unset, .unset, .unset, .unset, .unset, .unset] [(.int (0 : Int32)), (.ref a4), (.int v1)])) _
              refine XS.lload X8.here hx rfl (hb hby at_143) rfl ?_
              refine st149 _ ?_
              exact kt
            refine Done.of ?_ K150
            exact cut15 T149 _ ch149 ⟨X149, e149, N149, hb149⟩
    · intro cut8
      have K151 : ∀ target, Steps p.tables e below (T4.setTop (mkF m 71 #[.val (.int p0), .val (.int p1), .val (.int p2), .val (.int p3), .val (.long q4), .second, .val (.int v1), .val (.int v2), .val (.ref a4), .val (.int v6), .unset, .unset, .unset, .unset, .unset, .unset, .unset, .unset, .unset, .unset, .unset, .unset, .unset, .unset] [(.int v6)])) target → Steps p.tables e below (T4.setTop (mkF m 69 #[.val (.int p0), .val (.int p1), .val (.int p2), .val (.int p3), .val (.long q4), .second, .val (.int v1), .val (.int v2), .val (.ref a4), .val (.int v6), .unset, .unset, .unset, .unset, .unset, .unset, .unset, .unset, .unset, .unset, .unset, .unset, .unset, .unset] [])) target := by
        intro target kt
        show Steps p.tables e below (T4.setTop (mkF m 69 #[.val (.int p0), .val (.int p1), .val (.int p2), .val (.int p3), .val (.long q4), .second, .val (.int v1), .val (.int v2), .val (.ref a4), .val (.int v6), .unset, .unset, .unset, .unset, .unset, .unset, .unset, .unset, .unset, .unset, .unset, .unset, .unset, .unset] [])) _
        refine XS.iload X4.here hx rfl (hb hby at_69) rfl ?_
        exact kt
      refine Done.of ?_ K151
      by_cases hc71_152 : v6 = (0 : Int32)
      · have K : ∀ target, Steps p.tables e below (T4.setTop (mkF m 82 #[.val (.int p0), .val (.int p1), .val (.int p2), .val (.int p3), .val (.long q4), .second, .val (.int v1), .val (.int v2), .val (.ref a4), .val (.int v6), .unset, .unset, .unset, .unset, .unset, .unset, .unset, .unset, .unset, .unset, .unset, .unset, .unset, .unset] [])) target → Steps p.tables e below (T4.setTop (mkF m 71 #[.val (.int p0), .val (.int p1), .val (.int p2), .val (.int p3), .val (.long q4), .second, .val (.int v1), .val (.int v2), .val (.ref a4), .val (.int v6), .unset, .unset, .unset, .unset, .unset, .unset, .unset, .unset, .unset, .unset, .unset, .unset, .unset, .unset] [(.int v6)])) target := by
          intro target kt
          refine XS.ifYes X4.here hx rfl (pc0 := 71) (pc' := 82) rfl (hb hby at_71) rfl ((if0 _ _).trans (teq hc71_152).1) (by decide) (by decide) ?_
          exact kt
        refine Done.of ?_ K
        have hnz88_153 : (7 : Int32) ≠ (0 : Int32) := by decide
        have K154 : ∀ target, Steps p.tables e below (T4.setTop (mkF m 89 #[.val (.int p0), .val (.int p1), .val (.int p2), .val (.int p3), .val (.long q4), .second, .val (.int v1), .val (.int v2), .val (.ref a4), .val (.int v6), .unset, .unset, .unset, .unset, .unset, .unset, .unset, .unset, .unset, .unset, .unset, .unset, .unset, .unset] [(.int ((p1 &&& (2147483647 : Int32)) % (7 : Int32)))])) target → Steps p.tables e below (T4.setTop (mkF m 82 #[.val (.int p0), .val (.int p1), .val (.int p2), .val (.int p3), .val (.long q4), .second, .val (.int v1), .val (.int v2), .val (.ref a4), .val (.int v6), .unset, .unset, .unset, .unset, .unset, .unset, .unset, .unset, .unset, .unset, .unset, .unset, .unset, .unset] [])) target := by
          intro target kt
          show Steps p.tables e below (T4.setTop (mkF m 82 #[.val (.int p0), .val (.int p1), .val (.int p2), .val (.int p3), .val (.long q4), .second, .val (.int v1), .val (.int v2), .val (.ref a4), .val (.int v6), .unset, .unset, .unset, .unset, .unset, .unset, .unset, .unset, .unset, .unset, .unset, .unset, .unset, .unset] [])) _
          refine XS.iloadN X4.here hx rfl (hb hby at_82) rfl ?_
          show Steps p.tables e below (T4.setTop (mkF m 83 #[.val (.int p0), .val (.int p1), .val (.int p2), .val (.int p3), .val (.long q4), .second, .val (.int v1), .val (.int v2), .val (.ref a4), .val (.int v6), .unset, .unset, .unset, .unset, .unset, .unset, .unset, .unset, .unset, .unset, .unset, .unset, .unset, .unset] [(.int p1)])) _
          refine X4.ldcInt hx hown4 (mvT hZ4 (hw _ (List.mem_of_getElem? (i := 21) rfl))) (g := (mkF m 83 #[.val (.int p0), .val (.int p1), .val (.int p2), .val (.int p3), .val (.long q4), .second, .val (.int v1), .val (.int v2), .val (.ref a4), .val (.int v6), .unset, .unset, .unset, .unset, .unset, .unset, .unset, .unset, .unset, .unset, .unset, .unset, .unset, .unset] [(.int p1)])) rfl (hb hby at_83) _ ?_
          refine XS.iand X4.here hx rfl (hb hby at_85) rfl ?_
          refine XS.bipush X4.here hx rfl (hb hby at_86) ?_
          refine Jvm.RoadKit.iremM X4 hx rfl (hb hby at_88) rfl hnz88_153 ?_
          exact kt
        refine Done.of ?_ K154
        exact cut8 T4 _ ((p1 &&& (2147483647 : Int32)) % (7 : Int32)) ⟨X4, rfl, N4, rfl⟩
      · have K : ∀ target, Steps p.tables e below (T4.setTop (mkF m 74 #[.val (.int p0), .val (.int p1), .val (.int p2), .val (.int p3), .val (.long q4), .second, .val (.int v1), .val (.int v2), .val (.ref a4), .val (.int v6), .unset, .unset, .unset, .unset, .unset, .unset, .unset, .unset, .unset, .unset, .unset, .unset, .unset, .unset] [])) target → Steps p.tables e below (T4.setTop (mkF m 71 #[.val (.int p0), .val (.int p1), .val (.int p2), .val (.int p3), .val (.long q4), .second, .val (.int v1), .val (.int v2), .val (.ref a4), .val (.int v6), .unset, .unset, .unset, .unset, .unset, .unset, .unset, .unset, .unset, .unset, .unset, .unset, .unset, .unset] [(.int v6)])) target := by
          intro target kt
          refine XS.ifNo X4.here hx rfl (hb hby at_71) rfl ((if0 _ _).trans (feq hc71_152).1) ?_
          exact kt
        refine Done.of ?_ K
        obtain ⟨cq155, kq155, q155a, q155b, q155c⟩ := isOf hZ4 rfl (own_Str.exa hT4)
        obtain ⟨_, _, ⟨T155, L155, k155, n155⟩, -, X155, ⟨Lc155, hQ155, l155, y155, z155⟩, st155⟩ := X4.virtualBack hx (y := (⟨"java/lang/String", "length", "()I"⟩ : MethodName)) (z := (⟨"java/lang/String", "length", "()I"⟩ : MethodName)) hown4 (mvT hZ4 (hw _ (List.mem_of_getElem? (i := 8) rfl))) (mvT hZ4 (hw _ (List.mem_of_getElem? (i := 9) rfl))) (notFace_of_selects (args := #[]) (mvT hZ4 (hw _ (List.mem_of_getElem? (i := 11) rfl)))) (mvT hZ4 (hw _ (List.mem_of_getElem? (i := 11) rfl))) (mvT hZ4 (hw _ (List.mem_of_getElem? (i := 10) rfl))) (by decide) (own_lenB (W := 0) hZ4 hwln (hw _ (List.mem_of_getElem? (i := 2) rfl)) hT4 (S_COMPACT_STRINGS.ext (OZ.keep Kc4 all0).2) hcs (by decide) (by decide)) q155a q155c (g := (mkF m 76 #[.val (.int p0), .val (.int p1), .val (.int p2), .val (.int p3), .val (.long q4), .second, .val (.int v1), .val (.int v2), .val (.ref a4), .val (.int v6), .unset, .unset, .unset, .unset, .unset, .unset, .unset, .unset, .unset, .unset, .unset, .unset, .unset, .unset] [(.ref a4)])) rfl (by rw [hml]; rfl) (Steps.refl _) (argsL := []) (rest := []) (lenOf pd_0 rfl) rfl (by show 2 * 0 + _ ≤ _; exact Nat.le_of_eq rfl) (hb hby at_76) (fun _ _ => ⟨rfl, rfl, (by decide : 2 + 0 ≤ _), (by decide : 24 + 0 ≤ _)⟩)
        dsimp only [Pt.U, Pt.locs, Pt.cells, Pt.slots] at X155 l155 y155 z155 st155 hQ155
        rw [l155, y155, z155] at X155
        obtain ⟨rfl, rfl, e155⟩ := hQ155
        have N155 := Fr.app N4 (Fr.nil n0)
        have K156 : ∀ target, Steps p.tables e below (T155.setTop (mkF m 89 #[.val (.int p0), .val (.int p1), .val (.int p2), .val (.int p3), .val (.long q4), .second, .val (.int v1), .val (.int v2), .val (.ref a4), .val (.int v6), .unset, .unset, .unset, .unset, .unset, .unset, .unset, .unset, .unset, .unset, .unset, .unset, .unset, .unset] [(.int (Int32.ofNat cs4.length))])) target → Steps p.tables e below (T4.setTop (mkF m 74 #[.val (.int p0), .val (.int p1), .val (.int p2), .val (.int p3), .val (.long q4), .second, .val (.int v1), .val (.int v2), .val (.ref a4), .val (.int v6), .unset, .unset, .unset, .unset, .unset, .unset, .unset, .unset, .unset, .unset, .unset, .unset, .unset, .unset] [])) target := by
          intro target kt
          show Steps p.tables e below (T4.setTop (mkF m 74 #[.val (.int p0), .val (.int p1), .val (.int p2), .val (.int p3), .val (.long q4), .second, .val (.int v1), .val (.int v2), .val (.ref a4), .val (.int v6), .unset, .unset, .unset, .unset, .unset, .unset, .unset, .unset, .unset, .unset, .unset, .unset, .unset, .unset] [])) _
          refine XS.aload X4.here hx rfl (hb hby at_74) rfl rfl ?_
          show Steps p.tables e below (T4.setTop (mkF m 76 #[.val (.int p0), .val (.int p1), .val (.int p2), .val (.int p3), .val (.long q4), .second, .val (.int v1), .val (.int v2), .val (.ref a4), .val (.int v6), .unset, .unset, .unset, .unset, .unset, .unset, .unset, .unset, .unset, .unset, .unset, .unset, .unset, .unset] [(.ref a4)])) _
          refine st155.trans ?_
          show Steps p.tables e below (T155.setTop (mkF m 79 #[.val (.int p0), .val (.int p1), .val (.int p2), .val (.int p3), .val (.long q4), .second, .val (.int v1), .val (.int v2), .val (.ref a4), .val (.int v6), .unset, .unset, .unset, .unset, .unset, .unset, .unset, .unset, .unset, .unset, .unset, .unset, .unset, .unset] [(.int (Int32.ofNat cs4.length))])) _
          refine XS.goto X155.here hx rfl (pc0 := 79) (pc' := 89) rfl (hb hby at_79) (by decide) (by decide) ?_
          exact kt
        refine Done.of ?_ K156
        exact cut8 T155 _ (Int32.ofNat cs4.length) ⟨X155, e155, N155, rfl⟩
  · intro cut4
    have K157 : ∀ target, Steps p.tables e below (s₁.setTop (mkF m 14 #[.val (.int p0), .val (.int p1), .val (.int p2), .val (.int p3), .val (.long q4), .second, .val (.int v1), .val (.int v2), .unset, .unset, .unset, .unset, .unset, .unset, .unset, .unset, .unset, .unset, .unset, .unset, .unset, .unset, .unset, .unset] [(.int v2)])) target → Steps p.tables e below (s₁.setTop (mkF m 12 #[.val (.int p0), .val (.int p1), .val (.int p2), .val (.int p3), .val (.long q4), .second, .val (.int v1), .val (.int v2), .unset, .unset, .unset, .unset, .unset, .unset, .unset, .unset, .unset, .unset, .unset, .unset, .unset, .unset, .unset, .unset] [])) target := by
      intro target kt
      show Steps p.tables e below (s₁.setTop (mkF m 12 #[.val (.int p0), .val (.int p1), .val (.int p2), .val (.int p3), .val (.long q4), .second, .val (.int v1), .val (.int v2), .unset, .unset, .unset, .unset, .unset, .unset, .unset, .unset, .unset, .unset, .unset, .unset, .unset, .unset, .unset, .unset] [])) _
      refine XS.iload X0.here hx rfl (hb hby at_12) rfl ?_
      exact kt
    refine Done.of ?_ K157
    by_cases hc14_158 : v2 = (0 : Int32)
    · have K : ∀ target, Steps p.tables e below (s₁.setTop (mkF m 17 #[.val (.int p0), .val (.int p1), .val (.int p2), .val (.int p3), .val (.long q4), .second, .val (.int v1), .val (.int v2), .unset, .unset, .unset, .unset, .unset, .unset, .unset, .unset, .unset, .unset, .unset, .unset, .unset, .unset, .unset, .unset] [])) target → Steps p.tables e below (s₁.setTop (mkF m 14 #[.val (.int p0), .val (.int p1), .val (.int p2), .val (.int p3), .val (.long q4), .second, .val (.int v1), .val (.int v2), .unset, .unset, .unset, .unset, .unset, .unset, .unset, .unset, .unset, .unset, .unset, .unset, .unset, .unset, .unset, .unset] [(.int v2)])) target := by
        intro target kt
        refine XS.ifNo X0.here hx rfl (hb hby at_14) rfl ((if0 _ _).trans (teq hc14_158).2) ?_
        exact kt
      refine Done.of ?_ K
      obtain ⟨a159, T159, h159, k1159, bb159, kb159, X159, e159, E159, hS159, hk159, hZ159, hown159, LE159, LC159, LV159, LA159, -, -, CR159, Lit159, LN159, st159⟩ := ldcCH X0 hx hZ hown (hw _ (List.mem_of_getElem? (i := 0) rfl)) wS e0 hS0 (Nat.zero_le _) hEW (List.mem_of_getElem? (i := 0) rfl) hCH (vs := [(.int (112 : Int32)), (.int (108 : Int32)), (.int (97 : Int32)), (.int (105 : Int32)), (.int (110 : Int32))]) (z := (5 : Int32)) ⟨by decide +kernel, by first | rfl | decide +kernel⟩ (by decide) (by decide) (g := (mkF m 17 #[.val (.int p0), .val (.int p1), .val (.int p2), .val (.int p3), .val (.long q4), .second, .val (.int v1), .val (.int v2), .unset, .unset, .unset, .unset, .unset, .unset, .unset, .unset, .unset, .unset, .unset, .unset, .unset, .unset, .unset, .unset] [])) rfl (hb hby at_17) (n := 20) (by decide +kernel) (by decide) (by decide) (by decide)
      have Z159 : n0 ≤ h159.size := Nat.le_trans Z0 E159.1
      have Kp159 := (Keep.refl h0 []).ext E159
      have TS159 : own_Str Z h159 a159 own_c0 := ⟨bb159, kb159, _, _, LE159, LV159, LC159, LA159, Or.inl ⟨rfl, rfl, rfl, by decide⟩, by decide, by decide⟩
      have K160 : ∀ target, Steps p.tables e below (T159.setTop (mkF m 46 #[.val (.int p0), .val (.int p1), .val (.int p2), .val (.int p3), .val (.long q4), .second, .val (.int v1), .val (.int v2), .unset, .unset, .unset, .unset, .unset, .unset, .unset, .unset, .unset, .unset, .unset, .unset, .unset, .unset, .unset, .unset] [(.ref a159)])) target → Steps p.tables e below (s₁.setTop (mkF m 17 #[.val (.int p0), .val (.int p1), .val (.int p2), .val (.int p3), .val (.long q4), .second, .val (.int v1), .val (.int v2), .unset, .unset, .unset, .unset, .unset, .unset, .unset, .unset, .unset, .unset, .unset, .unset, .unset, .unset, .unset, .unset] [])) target := by
        intro target kt
        show Steps p.tables e below (s₁.setTop (mkF m 17 #[.val (.int p0), .val (.int p1), .val (.int p2), .val (.int p3), .val (.long q4), .second, .val (.int v1), .val (.int v2), .unset, .unset, .unset, .unset, .unset, .unset, .unset, .unset, .unset, .unset, .unset, .unset, .unset, .unset, .unset, .unset] [])) _
        refine st159 _ ?_
        show Steps p.tables e below (T159.setTop (mkF m 19 #[.val (.int p0), .val (.int p1), .val (.int p2), .val (.int p3), .val (.long q4), .second, .val (.int v1), .val (.int v2), .unset, .unset, .unset, .unset, .unset, .unset, .unset, .unset, .unset, .unset, .unset, .unset, .unset, .unset, .unset, .unset] [(.ref a159)])) _
        refine XS.goto X159.here hx rfl (pc0 := 19) (pc' := 46) rfl (hb hby at_19) (by decide) (by decide) ?_
        exact kt
      refine Done.of ?_ K160
      exact cut4 T159 _ T159.vm a159 _ ⟨X159, (by rw [e159]; exact Kp159), N0, ⟨_, hS159, (by rw [e159]; exact hk159)⟩, hZ159, hown159, (by rw [e159]; exact CR159.1), (by rw [e159]; exact TS159), (by decide)⟩
    · have K : ∀ target, Steps p.tables e below (s₁.setTop (mkF m 22 #[.val (.int p0), .val (.int p1), .val (.int p2), .val (.int p3), .val (.long q4), .second, .val (.int v1), .val (.int v2), .unset, .unset, .unset, .unset, .unset, .unset, .unset, .unset, .unset, .unset, .unset, .unset, .unset, .unset, .unset, .unset] [])) target → Steps p.tables e below (s₁.setTop (mkF m 14 #[.val (.int p0), .val (.int p1), .val (.int p2), .val (.int p3), .val (.long q4), .second, .val (.int v1), .val (.int v2), .unset, .unset, .unset, .unset, .unset, .unset, .unset, .unset, .unset, .unset, .unset, .unset, .unset, .unset, .unset, .unset] [(.int v2)])) target := by
        intro target kt
        refine XS.ifYes X0.here hx rfl (pc0 := 14) (pc' := 22) rfl (hb hby at_14) rfl ((if0 _ _).trans (feq hc14_158).2) (by decide) (by decide) ?_
        exact kt
      refine Done.of ?_ K
      have K161 : ∀ target, Steps p.tables e below (s₁.setTop (mkF m 25 #[.val (.int p0), .val (.int p1), .val (.int p2), .val (.int p3), .val (.long q4), .second, .val (.int v1), .val (.int v2), .unset, .unset, .unset, .unset, .unset, .unset, .unset, .unset, .unset, .unset, .unset, .unset, .unset, .unset, .unset, .unset] [(.int (1 : Int32)), (.int v2)])) target → Steps p.tables e below (s₁.setTop (mkF m 22 #[.val (.int p0), .val (.int p1), .val (.int p2), .val (.int p3), .val (.long q4), .second, .val (.int v1), .val (.int v2), .unset, .unset, .unset, .unset, .unset, .unset, .unset, .unset, .unset, .unset, .unset, .unset, .unset, .unset, .unset, .unset] [])) target := by
        intro target kt
        show Steps p.tables e below (s₁.setTop (mkF m 22 #[.val (.int p0), .val (.int p1), .val (.int p2), .val (.int p3), .val (.long q4), .second, .val (.int v1), .val (.int v2), .unset, .unset, .unset, .unset, .unset, .unset, .unset, .unset, .unset, .unset, .unset, .unset, .unset, .unset, .unset, .unset] [])) _
        refine XS.iload X0.here hx rfl (hb hby at_22) rfl ?_
        show Steps p.tables e below (s₁.setTop (mkF m 24 #[.val (.int p0), .val (.int p1), .val (.int p2), .val (.int p3), .val (.long q4), .second, .val (.int v1), .val (.int v2), .unset, .unset, .unset, .unset, .unset, .unset, .unset, .unset, .unset, .unset, .unset, .unset, .unset, .unset, .unset, .unset] [(.int v2)])) _
        refine XS.iconst X0.here hx rfl (hb hby at_24) ?_
        exact kt
      refine Done.of ?_ K161
      by_cases hc25_162 : v2 = (1 : Int32)
      · have K : ∀ target, Steps p.tables e below (s₁.setTop (mkF m 28 #[.val (.int p0), .val (.int p1), .val (.int p2), .val (.int p3), .val (.long q4), .second, .val (.int v1), .val (.int v2), .unset, .unset, .unset, .unset, .unset, .unset, .unset, .unset, .unset, .unset, .unset, .unset, .unset, .unset, .unset, .unset] [])) target → Steps p.tables e below (s₁.setTop (mkF m 25 #[.val (.int p0), .val (.int p1), .val (.int p2), .val (.int p3), .val (.long q4), .second, .val (.int v1), .val (.int v2), .unset, .unset, .unset, .unset, .unset, .unset, .unset, .unset, .unset, .unset, .unset, .unset, .unset, .unset, .unset, .unset] [(.int (1 : Int32)), (.int v2)])) target := by
          intro target kt
          refine XS.icmpNo X0.here hx rfl (hb hby at_25) rfl (teq hc25_162).2 ?_
          exact kt
        refine Done.of ?_ K
        obtain ⟨a163, T163, h163, k1163, bb163, kb163, X163, e163, E163, hS163, hk163, hZ163, hown163, LE163, LC163, LV163, LA163, -, -, CR163, Lit163, LN163, st163⟩ := ldcCH X0 hx hZ hown (hw _ (List.mem_of_getElem? (i := 142) rfl)) wS e0 hS0 (Nat.zero_le _) hEW (List.mem_of_getElem? (i := 1) rfl) hCH (vs := [(.int (112 : Int32)), (.int (117 : Int32)), (.int (114 : Int32)), (.int (101 : Int32))]) (z := (4 : Int32)) ⟨by decide +kernel, by first | rfl | decide +kernel⟩ (by decide) (by decide) (g := (mkF m 28 #[.val (.int p0), .val (.int p1), .val (.int p2), .val (.int p3), .val (.long q4), .second, .val (.int v1), .val (.int v2), .unset, .unset, .unset, .unset, .unset, .unset, .unset, .unset, .unset, .unset, .unset, .unset, .unset, .unset, .unset, .unset] [])) rfl (hb hby at_28) (n := 20) (by decide +kernel) (by decide) (by decide) (by decide)
        have Z163 : n0 ≤ h163.size := Nat.le_trans Z0 E163.1
        have Kp163 := (Keep.refl h0 []).ext E163
        have TS163 : own_Str Z h163 a163 own_c1 := ⟨bb163, kb163, _, _, LE163, LV163, LC163, LA163, Or.inl ⟨rfl, rfl, rfl, by decide⟩, by decide, by decide⟩
        have K164 : ∀ target, Steps p.tables e below (T163.setTop (mkF m 46 #[.val (.int p0), .val (.int p1), .val (.int p2), .val (.int p3), .val (.long q4), .second, .val (.int v1), .val (.int v2), .unset, .unset, .unset, .unset, .unset, .unset, .unset, .unset, .unset, .unset, .unset, .unset, .unset, .unset, .unset, .unset] [(.ref a163)])) target → Steps p.tables e below (s₁.setTop (mkF m 28 #[.val (.int p0), .val (.int p1), .val (.int p2), .val (.int p3), .val (.long q4), .second, .val (.int v1), .val (.int v2), .unset, .unset, .unset, .unset, .unset, .unset, .unset, .unset, .unset, .unset, .unset, .unset, .unset, .unset, .unset, .unset] [])) target := by
          intro target kt
          show Steps p.tables e below (s₁.setTop (mkF m 28 #[.val (.int p0), .val (.int p1), .val (.int p2), .val (.int p3), .val (.long q4), .second, .val (.int v1), .val (.int v2), .unset, .unset, .unset, .unset, .unset, .unset, .unset, .unset, .unset, .unset, .unset, .unset, .unset, .unset, .unset, .unset] [])) _
          refine st163 _ ?_
          show Steps p.tables e below (T163.setTop (mkF m 30 #[.val (.int p0), .val (.int p1), .val (.int p2), .val (.int p3), .val (.long q4), .second, .val (.int v1), .val (.int v2), .unset, .unset, .unset, .unset, .unset, .unset, .unset, .unset, .unset, .unset, .unset, .unset, .unset, .unset, .unset, .unset] [(.ref a163)])) _
          refine XS.goto X163.here hx rfl (pc0 := 30) (pc' := 46) rfl (hb hby at_30) (by decide) (by decide) ?_
          exact kt
        refine Done.of ?_ K164
        exact cut4 T163 _ T163.vm a163 _ ⟨X163, (by rw [e163]; exact Kp163), N0, ⟨_, hS163, (by rw [e163]; exact hk163)⟩, hZ163, hown163, (by rw [e163]; exact CR163.1), (by rw [e163]; exact TS163), (by decide)⟩
      · have K : ∀ target, Steps p.tables e below (s₁.setTop (mkF m 33 #[.val (.int p0), .val (.int p1), .val (.int p2), .val (.int p3), .val (.long q4), .second, .val (.int v1), .val (.int v2), .unset, .unset, .unset, .unset, .unset, .unset, .unset, .unset, .unset, .unset, .unset, .unset, .unset, .unset, .unset, .unset] [])) target → Steps p.tables e below (s₁.setTop (mkF m 25 #[.val (.int p0), .val (.int p1), .val (.int p2), .val (.int p3), .val (.long q4), .second, .val (.int v1), .val (.int v2), .unset, .unset, .unset, .unset, .unset, .unset, .unset, .unset, .unset, .unset, .unset, .unset, .unset, .unset, .unset, .unset] [(.int (1 : Int32)), (.int v2)])) target := by
          intro target kt
          refine XS.icmpYes X0.here hx rfl (pc0 := 25) (pc' := 33) rfl (hb hby at_25) rfl (feq hc25_162).2 (by decide) (by decide) ?_
          exact kt
        refine Done.of ?_ K
        have K165 : ∀ target, Steps p.tables e below (s₁.setTop (mkF m 36 #[.val (.int p0), .val (.int p1), .val (.int p2), .val (.int p3), .val (.long q4), .second, .val (.int v1), .val (.int v2), .unset, .unset, .unset, .unset, .unset, .unset, .unset, .unset, .unset, .unset, .unset, .unset, .unset, .unset, .unset, .unset] [(.int (2 : Int32)), (.int v2)])) target → Steps p.tables e below (s₁.setTop (mkF m 33 #[.val (.int p0), .val (.int p1), .val (.int p2), .val (.int p3), .val (.long q4), .second, .val (.int v1), .val (.int v2), .unset, .unset, .unset, .unset, .unset, .unset, .unset, .unset, .unset, .unset, .unset, .unset, .unset, .unset, .unset, .unset] [])) target := by
          intro target kt
          show Steps p.tables e below (s₁.setTop (mkF m 33 #[.val (.int p0), .val (.int p1), .val (.int p2), .val (.int p3), .val (.long q4), .second, .val (.int v1), .val (.int v2), .unset, .unset, .unset, .unset, .unset, .unset, .unset, .unset, .unset, .unset, .unset, .unset, .unset, .unset, .unset, .unset] [])) _
          refine XS.iload X0.here hx rfl (hb hby at_33) rfl ?_
          show Steps p.tables e below (s₁.setTop (mkF m 35 #[.val (.int p0), .val (.int p1), .val (.int p2), .val (.int p3), .val (.long q4), .second, .val (.int v1), .val (.int v2), .unset, .unset, .unset, .unset, .unset, .unset, .unset, .unset, .unset, .unset, .unset, .unset, .unset, .unset, .unset, .unset] [(.int v2)])) _
          refine XS.iconst X0.here hx rfl (hb hby at_35) ?_
          exact kt
        refine Done.of ?_ K165
        by_cases hc36_166 : v2 = (2 : Int32)
        · have K : ∀ target, Steps p.tables e below (s₁.setTop (mkF m 39 #[.val (.int p0), .val (.int p1), .val (.int p2), .val (.int p3), .val (.long q4), .second, .val (.int v1), .val (.int v2), .unset, .unset, .unset, .unset, .unset, .unset, .unset, .unset, .unset, .unset, .unset, .unset, .unset, .unset, .unset, .unset] [])) target → Steps p.tables e below (s₁.setTop (mkF m 36 #[.val (.int p0), .val (.int p1), .val (.int p2), .val (.int p3), .val (.long q4), .second, .val (.int v1), .val (.int v2), .unset, .unset, .unset, .unset, .unset, .unset, .unset, .unset, .unset, .unset, .unset, .unset, .unset, .unset, .unset, .unset] [(.int (2 : Int32)), (.int v2)])) target := by
            intro target kt
            refine XS.icmpNo X0.here hx rfl (hb hby at_36) rfl (teq hc36_166).2 ?_
            exact kt
          refine Done.of ?_ K
          obtain ⟨a167, T167, h167, k1167, bb167, kb167, X167, e167, E167, hS167, hk167, hZ167, hown167, LE167, LC167, LV167, LA167, -, -, CR167, Lit167, LN167, st167⟩ := ldcCH X0 hx hZ hown (hw _ (List.mem_of_getElem? (i := 141) rfl)) wS e0 hS0 (Nat.zero_le _) hEW (List.mem_of_getElem? (i := 2) rfl) hCH (vs := [(.int (119 : Int32)), (.int (109 : Int32)), (.int (103 : Int32))]) (z := (3 : Int32)) ⟨by decide +kernel, by first | rfl | decide +kernel⟩ (by decide) (by decide) (g := (mkF m 39 #[.val (.int p0), .val (.int p1), .val (.int p2), .val (.int p3), .val (.long q4), .second, .val (.int v1), .val (.int v2), .unset, .unset, .unset, .unset, .unset, .unset, .unset, .unset, .unset, .unset, .unset, .unset, .unset, .unset, .unset, .unset] [])) rfl (hb hby at_39) (n := 20) (by decide +kernel) (by decide) (by decide) (by decide)
          have Z167 : n0 ≤ h167.size := Nat.le_trans Z0 E167.1
          have Kp167 := (Keep.refl h0 []).ext E167
          have TS167 : own_Str Z h167 a167 own_c2 := ⟨bb167, kb167, _, _, LE167, LV167, LC167, LA167, Or.inl ⟨rfl, rfl, rfl, by decide⟩, by decide, by decide⟩
          have K168 : ∀ target, Steps p.tables e below (T167.setTop (mkF m 46 #[.val (.int p0), .val (.int p1), .val (.int p2), .val (.int p3), .val (.long q4), .second, .val (.int v1), .val (.int v2), .unset, .unset, .unset, .unset, .unset, .unset, .unset, .unset, .unset, .unset, .unset, .unset, .unset, .unset, .unset, .unset] [(.ref a167)])) target → Steps p.tables e below (s₁.setTop (mkF m 39 #[.val (.int p0), .val (.int p1), .val (.int p2), .val (.int p3), .val (.long q4), .second, .val (.int v1), .val (.int v2), .unset, .unset, .unset, .unset, .unset, .unset, .unset, .unset, .unset, .unset, .unset, .unset, .unset, .unset, .unset, .unset] [])) target := by
            intro target kt
            show Steps p.tables e below (s₁.setTop (mkF m 39 #[.val (.int p0), .val (.int p1), .val (.int p2), .val (.int p3), .val (.long q4), .second, .val (.int v1), .val (.int v2), .unset, .unset, .unset, .unset, .unset, .unset, .unset, .unset, .unset, .unset, .unset, .unset, .unset, .unset, .unset, .unset] [])) _
            refine st167 _ ?_
            show Steps p.tables e below (T167.setTop (mkF m 41 #[.val (.int p0), .val (.int p1), .val (.int p2), .val (.int p3), .val (.long q4), .second, .val (.int v1), .val (.int v2), .unset, .unset, .unset, .unset, .unset, .unset, .unset, .unset, .unset, .unset, .unset, .unset, .unset, .unset, .unset, .unset] [(.ref a167)])) _
            refine XS.goto X167.here hx rfl (pc0 := 41) (pc' := 46) rfl (hb hby at_41) (by decide) (by decide) ?_
            exact kt
          refine Done.of ?_ K168
          exact cut4 T167 _ T167.vm a167 _ ⟨X167, (by rw [e167]; exact Kp167), N0, ⟨_, hS167, (by rw [e167]; exact hk167)⟩, hZ167, hown167, (by rw [e167]; exact CR167.1), (by rw [e167]; exact TS167), (by decide)⟩
        · have K : ∀ target, Steps p.tables e below (s₁.setTop (mkF m 44 #[.val (.int p0), .val (.int p1), .val (.int p2), .val (.int p3), .val (.long q4), .second, .val (.int v1), .val (.int v2), .unset, .unset, .unset, .unset, .unset, .unset, .unset, .unset, .unset, .unset, .unset, .unset, .unset, .unset, .unset, .unset] [])) target → Steps p.tables e below (s₁.setTop (mkF m 36 #[.val (.int p0), .val (.int p1), .val (.int p2), .val (.int p3), .val (.long q4), .second, .val (.int v1), .val (.int v2), .unset, .unset, .unset, .unset, .unset, .unset, .unset, .unset, .unset, .unset, .unset, .unset, .unset, .unset, .unset, .unset] [(.int (2 : Int32)), (.int v2)])) target := by
            intro target kt
            refine XS.icmpYes X0.here hx rfl (pc0 := 36) (pc' := 44) rfl (hb hby at_36) rfl (feq hc36_166).2 (by decide) (by decide) ?_
            exact kt
          refine Done.of ?_ K
          obtain ⟨a169, T169, h169, k1169, bb169, kb169, X169, e169, E169, hS169, hk169, hZ169, hown169, LE169, LC169, LV169, LA169, -, -, CR169, Lit169, LN169, st169⟩ := ldcCH X0 hx hZ hown (hw _ (List.mem_of_getElem? (i := 143) rfl)) wS e0 hS0 (Nat.zero_le _) hEW (List.mem_of_getElem? (i := 3) rfl) hCH (vs := [(.int (99 : Int32)), (.int (102 : Int32))]) (z := (2 : Int32)) ⟨by decide +kernel, by first | rfl | decide +kernel⟩ (by decide) (by decide) (g := (mkF m 44 #[.val (.int p0), .val (.int p1), .val (.int p2), .val (.int p3), .val (.long q4), .second, .val (.int v1), .val (.int v2), .unset, .unset, .unset, .unset, .unset, .unset, .unset, .unset, .unset, .unset, .unset, .unset, .unset, .unset, .unset, .unset] [])) rfl (hb hby at_44) (n := 20) (by decide +kernel) (by decide) (by decide) (by decide)
          have Z169 : n0 ≤ h169.size := Nat.le_trans Z0 E169.1
          have Kp169 := (Keep.refl h0 []).ext E169
          have TS169 : own_Str Z h169 a169 own_c3 := ⟨bb169, kb169, _, _, LE169, LV169, LC169, LA169, Or.inl ⟨rfl, rfl, rfl, by decide⟩, by decide, by decide⟩
          have K170 : ∀ target, Steps p.tables e below (T169.setTop (mkF m 46 #[.val (.int p0), .val (.int p1), .val (.int p2), .val (.int p3), .val (.long q4), .second, .val (.int v1), .val (.int v2), .unset, .unset, .unset, .unset, .unset, .unset, .unset, .unset, .unset, .unset, .unset, .unset, .unset, .unset, .unset, .unset] [(.ref a169)])) target → Steps p.tables e below (s₁.setTop (mkF m 44 #[.val (.int p0), .val (.int p1), .val (.int p2), .val (.int p3), .val (.long q4), .second, .val (.int v1), .val (.int v2), .unset, .unset, .unset, .unset, .unset, .unset, .unset, .unset, .unset, .unset, .unset, .unset, .unset, .unset, .unset, .unset] [])) target := by
            intro target kt
            show Steps p.tables e below (s₁.setTop (mkF m 44 #[.val (.int p0), .val (.int p1), .val (.int p2), .val (.int p3), .val (.long q4), .second, .val (.int v1), .val (.int v2), .unset, .unset, .unset, .unset, .unset, .unset, .unset, .unset, .unset, .unset, .unset, .unset, .unset, .unset, .unset, .unset] [])) _
            refine st169 _ ?_
            exact kt
          refine Done.of ?_ K170
          exact cut4 T169 _ T169.vm a169 _ ⟨X169, (by rw [e169]; exact Kp169), N0, ⟨_, hS169, (by rw [e169]; exact hk169)⟩, hZ169, hown169, (by rw [e169]; exact CR169.1), (by rw [e169]; exact TS169), (by decide)⟩
set_option maxRecDepth 65536 in
set_option maxHeartbeats 40000000 in
theorem comes_1 {Post : Tables → Env → Array Value → State → Outcome → State → Prop} (hpost : ∀ tb e args s v u, (limb_1_1.after args s (.returned v) u = true ∧ limb_1_2.after args s (.returned v) u = true ∧ True) → ReturnedEndW s (.returned v) u (Jvm.fieldLocs frame_1_writes args s ++ Jvm.arrayLocs frame_1_arrays args s ++ Jvm.staticLocs frame_1_statics s) 32 5248 → Post tb e args s (.returned v) u) :
    ArmFor flags0 classFile x code maxLocals ret World_1 tables_1 room_1 Calls_1 rest_1 Pre_1 Post := by
  intro l hfl _ _ p e ha hc hk s m args below hf hA hF happ hP
  obtain ⟨hcalls, hrest, hpre⟩ := hP
  obtain ⟨-, -, -, hnamed, -, -, -, hat⟩ := (Spec.applies_iff hf).mp happ
  obtain ⟨hg, hn⟩ := and_e (Cond.before_iff.mp (show (Jvm.Cond.and given_1 narrow_1).before args s = true from hpre))
  obtain ⟨g1, g2⟩ := and_e hg
  obtain ⟨g3, g4⟩ := and_e g2
  obtain ⟨g5, g6⟩ := and_e g4
  obtain ⟨g7, g8⟩ := and_e g6
  obtain ⟨g9, g10⟩ := and_e g8
  obtain ⟨w0, w1, w2, w3, w4, rfl⟩ : ∃ w0 w1 w2 w3 w4 : Value, args = #[w0, w1, w2, w3, w4] := by
    have hs : args.size = 5 := by simpa [Cond.value, given_1] using g1
    obtain ⟨L⟩ := args
    match L, hs with
    | [w0, w1, w2, w3, w4], _ => exact ⟨w0, w1, w2, w3, w4, rfl⟩
  have hw := fun d (hd : d ∈ tables_1) => atoms_spec (ws := Jvm.Cond.code x code maxLocals ret :: tables_1) hat d (List.mem_cons_of_mem _ hd)
  have hfit : Fit s := fun {y c} hc i hi => by
    obtain ⟨ha, rfl⟩ := Array.getElem?_eq_some_iff.mp hc
    have q := List.all_eq_true.mp ((Array.all_eq_true_iff_forall_mem.mp hF) _ (Array.getElem_mem ha)) i (List.mem_range.mpr hi)
    simpa [Array.getElem?_eq_getElem hi] using q
  obtain ⟨hsets, hown0⟩ := atoms_of _ (rest_1_c_eq ▸ (show rest_1_c.before _ s = true from hrest))
  have hr0 := Cond.before_iff.mp hown0
  obtain ⟨i0, ei0⟩ := is_v g3
  obtain rfl : w0 = (.int i0) := Option.some.inj ei0
  obtain ⟨i1, ei1⟩ := is_v g5
  obtain rfl : w1 = (.int i1) := Option.some.inj ei1
  obtain ⟨i2, ei2⟩ := is_v g7
  obtain rfl : w2 = (.int i2) := Option.some.inj ei2
  obtain ⟨i3, ei3⟩ := is_v g9
  obtain rfl : w3 = (.int i3) := Option.some.inj ei3
  obtain ⟨i4, ei4⟩ := isL_v g10
  obtain rfl : w4 = (.long i4) := Option.some.inj ei4
  obtain ⟨nr0, hn⟩ := and_e hn
  obtain ⟨nr1, hn⟩ := and_e hn
  obtain ⟨nr2, hn⟩ := and_e hn
  obtain ⟨nr3, hn⟩ := and_e hn
  obtain ⟨nr4, hn⟩ := and_e hn
  obtain ⟨nr5, hn⟩ := and_e hn
  obtain ⟨nr6, hn⟩ := and_e hn
  obtain ⟨nr7, hn⟩ := and_e hn
  obtain ⟨nr8, hn⟩ := and_e hn
  obtain ⟨nr9, hn⟩ := and_e hn
  obtain ⟨nr10, hn⟩ := and_e hn
  obtain ⟨nr11, hn⟩ := and_e hn
  obtain ⟨nr12, hn⟩ := and_e hn
  obtain ⟨nr13, hn⟩ := and_e hn
  obtain ⟨nr14, hn⟩ := and_e hn
  obtain ⟨nr15, hn⟩ := and_e hn
  obtain ⟨nr16, hn⟩ := and_e hn
  obtain ⟨nr17, hn⟩ := and_e hn
  obtain ⟨nr18, hn⟩ := and_e hn
  obtain ⟨nr19, hn⟩ := and_e hn
  obtain ⟨nr20, hn⟩ := and_e hn
  obtain ⟨nr21, hn⟩ := and_e hn
  obtain ⟨nr22, hn⟩ := and_e hn
  obtain ⟨nr23, hn⟩ := and_e hn
  obtain ⟨nr24, hn⟩ := and_e hn
  obtain ⟨nr25, hn⟩ := and_e hn
  obtain ⟨nr26, hn⟩ := and_e hn
  obtain ⟨nr27, hn⟩ := and_e hn
  obtain ⟨nr28, hn⟩ := and_e hn
  obtain ⟨nr29, hn⟩ := and_e hn
  obtain ⟨nr30, hn⟩ := and_e hn
  obtain ⟨nr31, hn⟩ := and_e hn
  obtain ⟨nr32, hn⟩ := and_e hn
  obtain ⟨nr33, hn⟩ := and_e hn
  obtain ⟨nr34, hn⟩ := and_e hn
  obtain ⟨nr35, hn⟩ := and_e hn
  obtain ⟨nr36, hn⟩ := and_e hn
  obtain ⟨nr37, hn⟩ := and_e hn
  obtain ⟨nr38, hn⟩ := and_e hn
  obtain ⟨nr39, hn⟩ := and_e hn
  have nr40 := hn
  obtain ⟨xv, exv⟩ := exa_v nr1
  have EEv := Exa.start exv nr1
  have SSv := Sta.start exv (Or.inr ⟨(hw _ (List.mem_of_getElem? (i := 85) rfl)), (hw _ (List.mem_of_getElem? (i := 96) rfl))⟩)
  obtain ⟨clv, ARv⟩ := Arr.start exv nr0
  have LLv := own_len exv ARv (own_eqint nr2)
  obtain ⟨x0, ex0⟩ := exa_v nr3
  have SS0 := Sta.start ex0 (Or.inr ⟨(hw _ (List.mem_of_getElem? (i := 85) rfl)), (hw _ (List.mem_of_getElem? (i := 104) rfl))⟩)
  have el0 := own_el exv ARv (0 : Int32) (own_eqref ex0 nr4)
  obtain ⟨x1, ex1⟩ := exa_v nr5
  have SS1 := Sta.start ex1 (Or.inr ⟨(hw _ (List.mem_of_getElem? (i := 85) rfl)), (hw _ (List.mem_of_getElem? (i := 105) rfl))⟩)
  have el1 := own_el exv ARv (1 : Int32) (own_eqref ex1 nr6)
  obtain ⟨x2, ex2⟩ := exa_v nr7
  have SS2 := Sta.start ex2 (Or.inr ⟨(hw _ (List.mem_of_getElem? (i := 85) rfl)), (hw _ (List.mem_of_getElem? (i := 106) rfl))⟩)
  have el2 := own_el exv ARv (2 : Int32) (own_eqref ex2 nr8)
  obtain ⟨x3, ex3⟩ := exa_v nr9
  have SS3 := Sta.start ex3 (Or.inr ⟨(hw _ (List.mem_of_getElem? (i := 85) rfl)), (hw _ (List.mem_of_getElem? (i := 107) rfl))⟩)
  have el3 := own_el exv ARv (3 : Int32) (own_eqref ex3 nr10)
  have VVv : Arv s s.heap xv clv.cls (.object "com/example/ensyn/ensyn/region/NetClass") (4 : Int32) [.ref x0, .ref x1, .ref x2, .ref x3] .null := Arv.start hfit ARv LLv.1 LLv.2 (by decide) (show (4 : Int32).toNatClampNeg = 4 from by decide) ⟨el0, el1, el2, el3, trivial⟩
  obtain ⟨y0, ey0⟩ := exa_v nr11
  have EY0 := Exa.start ey0 nr11
  have FS0 := Fld.start ((fld_at ex0).symm.trans ey0)
  have FC0 := Fld.start ((fld_at ey0).symm.trans (own_eqint nr12))
  obtain ⟨t0, et0⟩ := arr_v nr13
  have FV0 := Fld.start ((fld_at ey0).symm.trans et0)
  obtain ⟨cl0, AR0⟩ := Arr.start et0 nr13
  have LL0 := own_len et0 AR0 (own_eqint nr14)
  have AV0 : Arv s s.heap t0 cl0.cls .byte (5 : Int32) [(.int (112 : Int32)), (.int (108 : Int32)), (.int (97 : Int32)), (.int (105 : Int32)), (.int (110 : Int32))] (.int 0) := Arv.start hfit AR0 LL0.1 LL0.2 (by decide) (by decide) ⟨own_el et0 AR0 (0 : Int32) (own_eqint nr36), own_el et0 AR0 (1 : Int32) (own_eqint nr37), own_el et0 AR0 (2 : Int32) (own_eqint nr38), own_el et0 AR0 (3 : Int32) (own_eqint nr39), own_el et0 AR0 (4 : Int32) (own_eqint nr40), trivial⟩
  have TT0 : own_Str s s.heap y0 own_c0 := ⟨t0, _, _, _, EY0, FV0, FC0, AV0, Or.inl ⟨rfl, rfl, rfl, by decide⟩, by decide, by decide⟩
  obtain ⟨y1, ey1⟩ := exa_v nr15
  have EY1 := Exa.start ey1 nr15
  have FS1 := Fld.start ((fld_at ex1).symm.trans ey1)
  have FC1 := Fld.start ((fld_at ey1).symm.trans (own_eqint nr16))
  obtain ⟨t1, et1⟩ := arr_v nr17
  have FV1 := Fld.start ((fld_at ey1).symm.trans et1)
  obtain ⟨cl1, AR1⟩ := Arr.start et1 nr17
  have LL1 := own_len et1 AR1 (own_eqint nr18)
  have AV1 : Arv s s.heap t1 cl1.cls .byte (4 : Int32) [(.int (112 : Int32)), (.int (117 : Int32)), (.int (114 : Int32)), (.int (101 : Int32))] (.int 0) := Arv.start hfit AR1 LL1.1 LL1.2 (by decide) (by decide) ⟨own_el et1 AR1 (0 : Int32) (own_eqint nr29), own_el et1 AR1 (1 : Int32) (own_eqint nr30), own_el et1 AR1 (2 : Int32) (own_eqint nr33), own_el et1 AR1 (3 : Int32) (own_eqint nr34), trivial⟩
  have TT1 : own_Str s s.heap y1 own_c1 := ⟨t1, _, _, _, EY1, FV1, FC1, AV1, Or.inl ⟨rfl, rfl, rfl, by decide⟩, by decide, by decide⟩
  obtain ⟨y2, ey2⟩ := exa_v nr19
  have EY2 := Exa.start ey2 nr19
  have FS2 := Fld.start ((fld_at ex2).symm.trans ey2)
  have FC2 := Fld.start ((fld_at ey2).symm.trans (own_eqint nr20))
  obtain ⟨t2, et2⟩ := arr_v nr21
  have FV2 := Fld.start ((fld_at ey2).symm.trans et2)
  obtain ⟨cl2, AR2⟩ := Arr.start et2 nr21
  have LL2 := own_len et2 AR2 (own_eqint nr22)
  have AV2 : Arv s s.heap t2 cl2.cls .byte (3 : Int32) [(.int (119 : Int32)), (.int (109 : Int32)), (.int (103 : Int32))] (.int 0) := Arv.start hfit AR2 LL2.1 LL2.2 (by decide) (by decide) ⟨own_el et2 AR2 (0 : Int32) (own_eqint nr27), own_el et2 AR2 (1 : Int32) (own_eqint nr28), own_el et2 AR2 (2 : Int32) (own_eqint nr35), trivial⟩
  have TT2 : own_Str s s.heap y2 own_c2 := ⟨t2, _, _, _, EY2, FV2, FC2, AV2, Or.inl ⟨rfl, rfl, rfl, by decide⟩, by decide, by decide⟩
  obtain ⟨y3, ey3⟩ := exa_v nr23
  have EY3 := Exa.start ey3 nr23
  have FS3 := Fld.start ((fld_at ex3).symm.trans ey3)
  have FC3 := Fld.start ((fld_at ey3).symm.trans (own_eqint nr24))
  obtain ⟨t3, et3⟩ := arr_v nr25
  have FV3 := Fld.start ((fld_at ey3).symm.trans et3)
  obtain ⟨cl3, AR3⟩ := Arr.start et3 nr25
  have LL3 := own_len et3 AR3 (own_eqint nr26)
  have AV3 : Arv s s.heap t3 cl3.cls .byte (2 : Int32) [(.int (99 : Int32)), (.int (102 : Int32))] (.int 0) := Arv.start hfit AR3 LL3.1 LL3.2 (by decide) (by decide) ⟨own_el et3 AR3 (0 : Int32) (own_eqint nr31), own_el et3 AR3 (1 : Int32) (own_eqint nr32), trivial⟩
  have TT3 : own_Str s s.heap y3 own_c3 := ⟨t3, _, _, _, EY3, FV3, FC3, AV3, Or.inl ⟨rfl, rfl, rfl, by decide⟩, by decide, by decide⟩
  let A : Nat → Addr := fun i => [x0, x1, x2, x3].getD i 0
  let NM : Nat → Addr := fun i => [y0, y1, y2, y3].getD i 0
  have cn3 := not_v (Cond.before_iff.mp (hsets _ (List.mem_of_getElem? (i := 2) rfl)))
  obtain ⟨cs7, ecs7⟩ := is_v (Cond.before_iff.mp (hsets _ (List.mem_of_getElem? (i := 1) rfl)))
  have SCS := Sta.start ecs7 (Or.inl (hsets _ (List.mem_of_getElem? (i := 0) rfl)))
  have ccs : ¬ (cs7 = (0 : Int32)) := gotF (Cond.eq_ints ecs7 (Term.int_eval (0))) cn3
  obtain ⟨fm7, efm7, rfm7⟩ := isR_v (Cond.before_iff.mp (hsets _ (List.mem_of_getElem? (i := 8) rfl)))
  have SFM := Sta.start efm7 (Or.inl (hsets _ (List.mem_of_getElem? (i := 7) rfl)))
  obtain ⟨em7, eem7⟩ := exa_v (Cond.before_iff.mp (hsets _ (List.mem_of_getElem? (i := 11) rfl)))
  have EEM := Exa.start eem7 (Cond.before_iff.mp (hsets _ (List.mem_of_getElem? (i := 11) rfl)))
  have SEM := Sta.start eem7 (Or.inl (hsets _ (List.mem_of_getElem? (i := 10) rfl)))
  have FEM := Fld.start ((fld_at eem7).symm.trans (null_v (Cond.before_iff.mp (hsets _ (List.mem_of_getElem? (i := 12) rfl)))))
  have HW7 : own_W s s.heap A NM xv em7 clv.cls .null := ⟨EEv, VVv, EEM, FEM, FS0, TT0, FS1, TT1, FS2, TT2, FS3, TT3⟩
  have hOC : CHv s [("com/example/ensyn/ensyn/region/NetClassNamedPinLaw", 7), ("com/example/ensyn/ensyn/region/NetClassNamedPinLaw", 9), ("com/example/ensyn/ensyn/region/NetClassNamedPinLaw", 11), ("com/example/ensyn/ensyn/region/NetClassNamedPinLaw", 13), ("java/lang/String", 7)] s.vm s.heap := CHv.start (EW.cons (hw _ (List.mem_of_getElem? (i := 0) rfl)) (by decide +kernel) (EW.cons (hw _ (List.mem_of_getElem? (i := 142) rfl)) (by decide +kernel) (EW.cons (hw _ (List.mem_of_getElem? (i := 141) rfl)) (by decide +kernel) (EW.cons (hw _ (List.mem_of_getElem? (i := 143) rfl)) (by decide +kernel) (EW.cons (hw _ (List.mem_of_getElem? (i := 145) rfl)) (by decide +kernel) EW.nil))))) (fun q hq => hcalls.1 q hq) (hsets _ (List.mem_of_getElem? (i := 2) rfl)) (hw _ (List.mem_of_getElem? (i := 3) rfl)) (hw _ (List.mem_of_getElem? (i := 2) rfl))
  obtain ⟨n, o, h1, h2, h3, _, L, rfl, ⟨rfl, N⟩, hq⟩ := rm0 l s _ hw tables_1 i0 i1 i2 i3 i4 A NM xv em7 clv.cls .null cs7 fm7 s.heap s.heap.size (Nat.le_refl _) SCS ccs SSv SEM SFM rfm7 SS0 SS1 SS2 SS3 HW7 (Old.start s) p e ha hc hk s m _ below hf ((Spec.applies_iff_loose hf).mp happ).1 ⟨rfl, State.Warmed39.refl s, rfl, hOC⟩ trivial
  refine ⟨n, _, h1, h2, h3, hpost _ _ _ _ _ _ ⟨Cond.after_iff.mpr rfl, Cond.after_iff.mpr (eq_i res_at (Term.int_eval (1)) rfl), trivial⟩ ⟨hq.1, hq.2.1, hq.2.2.1, (hq.2.2.2.sift fun y hy => Or.inr (N y hy)).mono (by decide) (by decide)⟩⟩
theorem main_1_1 : Claimed_1_1 := comes_1 fun _ _ _ _ _ _ h hF => ⟨h.1, hF⟩
theorem main_1_2 : Claimed_1_2 := comes_1 fun _ _ _ _ _ _ h hF => ⟨h.2.1, hF⟩
end Jvm.Pilot.@@N@@
namespace Jvm.Pilot.@@N@@
open Jvm Jvm.ClassFile Sem Op Lib Jvm.Free Jvm.Stand Jvm.Pilot.@@N@@.Jvm.D
/-! MADE BY PROGRAM (witnessworld.py) out of the Statement's table words and the real class files: 24 classes; the members and pool entries that the words name. The judged class is class 1, her method 1. -/
namespace start1
open Jvm.ClassFile
def u (s : String) : CpInfo := .utf8 (stringToUtf16 s)
/-- a pool by its gaps: so many unusable entries, then the entry; so many at the end -/
def gap : Nat → List CpInfo → List CpInfo
  | 0, r => r
  | n + 1, r => .unusable :: gap n r
def poolList (es : List (Nat × CpInfo)) (last : Nat) : List CpInfo := es.foldr (fun e r => gap e.1 (e.2 :: r)) (gap last [])
def pool (es : List (Nat × CpInfo)) (last : Nat) : Array CpInfo := ⟨poolList es last⟩
def fileOf (pool : Array CpInfo) (this : Nat) (attrs : Array Attribute := #[]) (ms : Array MethodInfo := #[]) (fl : Nat := 33) (sup : Nat := 0) (ifs : Array Nat := #[]) (fds : Array FieldInfo := #[]) : ClassFile where
  minorVersion := 0
  majorVersion := 65
  constantPool := pool
  accessFlags := fl
  thisClass := this
  superClass := sup
  interfaces := ifs
  fields := fds
  methods := ms
  attributes := attrs
def plain (name : String) (sup : Option ClassId) : Class where
  name := name
  kind := .ordinary
  loader := none
  accessFlags := 33
  super := sup
  interfaces := #[]
  cf := none
  fields := #[]
  methods := #[]
  instanceTypes := #[]
  staticTypes := #[]
  resolved := #[]
  callSites := []
  init := .initialized
  statics := none
  mirror := none

def pool0 : Array CpInfo := pool [(5, u "<init>"), (0, u "()V"), (1, .class_ 10), (1, u "java/lang/Object"), (85, u "clone"), (0, u "()Ljava/lang/Object;")] 26

def k0c0 : Code := { maxStack := 0, maxLocals := 1, code := object_method_1_code, exceptionTable := #[], attributes := #[] }
def k0m0 : Method := { name := "<init>", desc := "()V", sig := { parameters := [], returnType := none }, accessFlags := 1, code := some k0c0 }
def k0m1 : Method := { name := "clone", desc := "()Ljava/lang/Object;", sig := { parameters := [], returnType := some (.object "java/lang/Object") }, accessFlags := 260, code := none }
/-- java/lang/Object -/
def k0 : Class := { plain "java/lang/Object" none with
  accessFlags := 33
  interfaces := #[]
  cf := some (fileOf pool0 8 #[] #[{ accessFlags := 1, nameIndex := 5, descriptorIndex := 6, attributes := #[] }, { accessFlags := 260, nameIndex := 96, descriptorIndex := 97, attributes := #[] }] 33 0 #[] #[])
  fields := #[]
  methods := #[k0m0, k0m1]
  instanceTypes := #[]
  staticTypes := #[]
  resolved := Array.replicate 124 none
  statics := none }

def pool1 : Array CpInfo := pool [(2, .class_ 4), (1, u "java/lang/Object"), (0, u "<init>"), (0, u "()V"), (0, .string 8), (0, u "plain"), (0, .string 10), (0, u "pure"), (0, .string 12), (0, u "wmg"), (0, .string 14), (0, u "cf"), (0, .methodref 16 17), (0, .class_ 18), (0, .nameAndType 19 20), (0, u "java/lang/String"), (0, u "length"), (0, u "()I"), (0, .integer 2147483647), (0, .methodref 23 24), (0, .class_ 25), (0, .nameAndType 26 27), (0, u "com/example/ensyn/ensyn/region/NetClassNamedPinLaw"), (0, u "pick"), (0, u "(ILjava/lang/String;IJ)C"), (0, .methodref 23 29), (0, .nameAndType 30 31), (0, u "make"), (0, u "(ICCCCCC)Ljava/lang/String;"), (0, .methodref 16 33), (0, .nameAndType 34 35), (0, u "equals"), (0, u "(Ljava/lang/Object;)Z"), (0, .methodref 37 38), (0, .class_ 39), (0, .nameAndType 40 41), (0, u "com/example/ensyn/ensyn/region/NetClass"), (0, u "named"), (0, u "(Ljava/lang/String;)Ljava/util/Optional;"), (0, .methodref 43 44), (0, .class_ 45), (0, .nameAndType 46 47), (0, u "java/util/Optional"), (0, u "isPresent"), (0, u "()Z"), (0, .fieldref 37 49), (0, .nameAndType 50 51), (0, u "PLAIN"), (0, u "Lcom/example/ensyn/ensyn/region/NetClass;"), (0, .fieldref 37 53), (0, .nameAndType 54 51), (0, u "PURE"), (0, .fieldref 37 56), (0, .nameAndType 57 51), (0, u "WEIGHTED_MARKED_GRAPH"), (0, .fieldref 37 59), (0, .nameAndType 60 51), (0, u "CHOICE_FREE"), (0, .methodref 43 62), (0, .nameAndType 63 64), (0, u "get"), (0, u "()Ljava/lang/Object;"), (0, .methodref 16 66), (0, .nameAndType 67 68), (0, u "charAt"), (0, u "(I)C"), (0, .long 255), (1, .methodref 16 72), (0, .nameAndType 5 73), (0, u "([C)V"), (2, u "law"), (0, u "(IIIIJ)Z")] 3

def k1m0 : Method := { name := "<init>", desc := "()V", sig := { parameters := [], returnType := none }, accessFlags := 1, code := none }
def k1c1 : Code := { maxStack := 7, maxLocals := 24, code := code, exceptionTable := #[], attributes := #[] }
def k1m1 : Method := { name := "law", desc := "(IIIIJ)Z", sig := { parameters := [.int, .int, .int, .int, .long], returnType := some .boolean }, accessFlags := 9, code := some k1c1 }
def k1c2 : Code := { maxStack := 4, maxLocals := 5, code := method_3_code, exceptionTable := #[], attributes := #[] }
def k1m2 : Method := { name := "pick", desc := "(ILjava/lang/String;IJ)C", sig := { parameters := [.int, (.object "java/lang/String"), .int, .long], returnType := some .char }, accessFlags := 10, code := some k1c2 }
def k1c3 : Code := { maxStack := 6, maxLocals := 7, code := method_4_code, exceptionTable := #[], attributes := #[] }
def k1m3 : Method := { name := "make", desc := "(ICCCCCC)Ljava/lang/String;", sig := { parameters := [.int, .char, .char, .char, .char, .char, .char], returnType := some (.object "java/lang/String") }, accessFlags := 10, code := some k1c3 }
/-- com/example/ensyn/ensyn/region/NetClassNamedPinLaw -/
def k1 : Class := { plain "com/example/ensyn/ensyn/region/NetClassNamedPinLaw" (some 0) with
  accessFlags := 49
  interfaces := #[]
  cf := some (fileOf pool1 23 #[] #[{ accessFlags := 1, nameIndex := 5, descriptorIndex := 6, attributes := #[] }, { accessFlags := 9, nameIndex := 76, descriptorIndex := 77, attributes := #[] }, { accessFlags := 10, nameIndex := 26, descriptorIndex := 27, attributes := #[] }, { accessFlags := 10, nameIndex := 30, descriptorIndex := 31, attributes := #[] }] 49 2 #[] #[])
  fields := #[]
  methods := #[k1m0, k1m1, k1m2, k1m3]
  instanceTypes := #[]
  staticTypes := #[]
  resolved := Array.replicate 81 none
  statics := none }

def pool2 : Array CpInfo := pool [(1, .class_ 2), (0, u "java/io/Serializable"), (0, .class_ 4), (0, u "java/lang/Object")] 2

/-- java/io/Serializable -/
def k2 : Class := { plain "java/io/Serializable" (some 0) with
  accessFlags := 1537
  interfaces := #[]
  cf := some (fileOf pool2 1 #[] #[] 1537 3 #[] #[])
  fields := #[]
  methods := #[]
  instanceTypes := #[]
  staticTypes := #[]
  resolved := Array.replicate 7 none
  statics := none }

def pool3 : Array CpInfo := pool [(1, .class_ 2), (0, u "java/lang/Comparable"), (0, .class_ 4), (0, u "java/lang/Object")] 7

/-- java/lang/Comparable -/
def k3 : Class := { plain "java/lang/Comparable" (some 0) with
  accessFlags := 1537
  interfaces := #[]
  cf := some (fileOf pool3 1 #[] #[] 1537 3 #[] #[])
  fields := #[]
  methods := #[]
  instanceTypes := #[]
  staticTypes := #[]
  resolved := Array.replicate 12 none
  statics := none }

def pool4 : Array CpInfo := pool [(2, .class_ 4), (1, u "java/lang/CharSequence"), (42, .class_ 48), (0, u "java/lang/CharSequence$1CodePointIterator"), (10, .class_ 60), (0, u "java/lang/CharSequence$1CharIterator"), (5, .class_ 67), (0, u "java/lang/Object")] 63

/-- java/lang/CharSequence -/
def k4 : Class := { plain "java/lang/CharSequence" (some 0) with
  accessFlags := 1537
  interfaces := #[]
  cf := some (fileOf pool4 2 #[.nestMembers #[47, 59]] #[] 1537 66 #[] #[])
  fields := #[]
  methods := #[]
  instanceTypes := #[]
  staticTypes := #[]
  resolved := Array.replicate 131 none
  statics := none }

def pool5 : Array CpInfo := pool [(1, .class_ 2), (0, u "java/lang/constant/Constable"), (0, .class_ 4), (0, u "java/lang/Object")] 6

/-- java/lang/constant/Constable -/
def k5 : Class := { plain "java/lang/constant/Constable" (some 0) with
  accessFlags := 1537
  interfaces := #[]
  cf := some (fileOf pool5 1 #[] #[] 1537 3 #[] #[])
  fields := #[]
  methods := #[]
  instanceTypes := #[]
  staticTypes := #[]
  resolved := Array.replicate 11 none
  statics := none }

def pool6 : Array CpInfo := pool [(1, .class_ 2), (0, u "java/lang/constant/ConstantDesc"), (0, .class_ 4), (0, u "java/lang/Object")] 32

/-- java/lang/constant/ConstantDesc -/
def k6 : Class := { plain "java/lang/constant/ConstantDesc" (some 0) with
  accessFlags := 1537
  interfaces := #[]
  cf := some (fileOf pool6 1 #[] #[] 1537 3 #[] #[])
  fields := #[]
  methods := #[]
  instanceTypes := #[]
  staticTypes := #[]
  resolved := Array.replicate 37 none
  statics := none }

def pool7 : Array CpInfo := pool [(1, .methodref 2 3), (0, .class_ 4), (0, .nameAndType 5 6), (0, u "java/lang/Object"), (0, u "<init>"), (0, u "()V"), (0, .string 8), (0, u ""), (0, .fieldref 10 11), (0, .class_ 12), (0, .nameAndType 13 14), (0, u "java/lang/String"), (0, u "value"), (0, u "[B"), (0, .fieldref 10 16), (0, .nameAndType 17 18), (0, u "coder"), (0, u "B"), (2, u "hash"), (0, u "I"), (2, u "hashIsZero"), (0, u "Z"), (0, .methodref 10 28), (0, .nameAndType 5 29), (0, u "([CIILjava/lang/Void;)V"), (8, .fieldref 10 39), (0, .nameAndType 40 26), (0, u "COMPACT_STRINGS"), (1, .class_ 44), (1, u "java/lang/StringUTF16"), (0, u "compress"), (1, .methodref 42 48), (0, .nameAndType 49 50), (0, u "coderFromArrayLen"), (0, u "([BI)B"), (56, .class_ 109), (1, u "java/lang/StringLatin1"), (32, u "()Z"), (34, .methodref 42 178), (0, .nameAndType 45 179), (0, u "([CII)[B"), (154, u "()I"), (0, .methodref 10 336), (0, .nameAndType 17 337), (0, u "()B"), (25, u "([BI)C"), (27, u "(II)V"), (35, u "(I)C"), (64, .methodref 10 493), (0, .nameAndType 494 142), (0, u "isLatin1"), (0, .methodref 107 496), (0, .nameAndType 497 363), (0, u "charAt"), (3, u "checkIndex"), (5, u "length"), (33, .methodref 107 542), (0, .nameAndType 543 544), (0, u "equals"), (0, u "([B[B)Z"), (28, u "(Ljava/lang/Object;)Z"), (1, .class_ 576), (0, u "java/lang/CharSequence"), (22, u "CASE_INSENSITIVE_ORDER"), (0, u "Ljava/util/Comparator;"), (409, u "([C)V"), (42, .fieldref 1054 1055), (0, .class_ 1056), (0, .nameAndType 1057 1058), (0, u "jdk/internal/util/Preconditions"), (0, u "SIOOBE_FORMATTER"), (0, u "Ljava/util/function/BiFunction;"), (0, .methodref 1054 1060), (0, .nameAndType 501 1061), (0, u "(IILjava/util/function/BiFunction;)I"), (39, u "serialPersistentFields"), (0, u "[Ljava/io/ObjectStreamField;"), (0, .class_ 1104), (0, u "java/lang/String$CaseInsensitiveComparator"), (1, .class_ 1107), (0, u "java/io/Serializable"), (0, .class_ 1109), (0, u "java/lang/Comparable"), (0, .class_ 1111), (0, u "java/lang/constant/Constable"), (0, .class_ 1113), (0, u "java/lang/constant/ConstantDesc"), (2, u "serialVersionUID"), (0, u "J"), (3, u "REPL"), (0, u "C"), (2, u "LATIN1"), (1, u "UTF16")] 323

def k7m0 : Method := { name := "<init>", desc := "()V", sig := { parameters := [], returnType := none }, accessFlags := 1, code := none }
def k7c1 : Code := { maxStack := 5, maxLocals := 2, code := jdk_42_method_3_code, exceptionTable := #[], attributes := #[] }
def k7m1 : Method := { name := "<init>", desc := "([C)V", sig := { parameters := [(.array .char)], returnType := none }, accessFlags := 1, code := some k7c1 }
def k7c2 : Code := { maxStack := 2, maxLocals := 1, code := jdk_42_method_54_code, exceptionTable := #[], attributes := #[] }
def k7m2 : Method := { name := "length", desc := "()I", sig := { parameters := [], returnType := some .int }, accessFlags := 1, code := some k7c2 }
def k7c3 : Code := { maxStack := 2, maxLocals := 2, code := jdk_42_method_56_code, exceptionTable := #[], attributes := #[] }
def k7m3 : Method := { name := "charAt", desc := "(I)C", sig := { parameters := [.int], returnType := some .char }, accessFlags := 1, code := some k7c3 }
def k7c4 : Code := { maxStack := 2, maxLocals := 3, code := jdk_42_method_66_code, exceptionTable := #[], attributes := #[] }
def k7m4 : Method := { name := "equals", desc := "(Ljava/lang/Object;)Z", sig := { parameters := [(.object "java/lang/Object")], returnType := some .boolean }, accessFlags := 1, code := some k7c4 }
def k7c5 : Code := { maxStack := 4, maxLocals := 6, code := jdk_42_method_149_code, exceptionTable := #[], attributes := #[] }
def k7m5 : Method := { name := "<init>", desc := "([CIILjava/lang/Void;)V", sig := { parameters := [(.array .char), .int, .int, (.object "java/lang/Void")], returnType := none }, accessFlags := 2, code := some k7c5 }
def k7c6 : Code := { maxStack := 1, maxLocals := 1, code := jdk_42_method_152_code, exceptionTable := #[], attributes := #[] }
def k7m6 : Method := { name := "coder", desc := "()B", sig := { parameters := [], returnType := some .byte }, accessFlags := 0, code := some k7c6 }
def k7c7 : Code := { maxStack := 1, maxLocals := 1, code := jdk_42_method_154_code, exceptionTable := #[], attributes := #[] }
def k7m7 : Method := { name := "isLatin1", desc := "()Z", sig := { parameters := [], returnType := some .boolean }, accessFlags := 0, code := some k7c7 }
def k7c8 : Code := { maxStack := 3, maxLocals := 2, code := jdk_42_method_155_code, exceptionTable := #[], attributes := #[] }
def k7m8 : Method := { name := "checkIndex", desc := "(II)V", sig := { parameters := [.int, .int], returnType := none }, accessFlags := 8, code := some k7c8 }
/-- java/lang/String -/
def k7 : Class := { plain "java/lang/String" (some 0) with
  accessFlags := 49
  interfaces := #[2, 3, 4, 5, 6]
  cf := some (fileOf pool7 10 #[.nestMembers #[1103]] #[{ accessFlags := 1, nameIndex := 5, descriptorIndex := 6, attributes := #[] }, { accessFlags := 1, nameIndex := 5, descriptorIndex := 1010, attributes := #[] }, { accessFlags := 1, nameIndex := 507, descriptorIndex := 334, attributes := #[] }, { accessFlags := 1, nameIndex := 497, descriptorIndex := 427, attributes := #[] }, { accessFlags := 1, nameIndex := 543, descriptorIndex := 573, attributes := #[] }, { accessFlags := 2, nameIndex := 5, descriptorIndex := 29, attributes := #[] }, { accessFlags := 0, nameIndex := 17, descriptorIndex := 337, attributes := #[] }, { accessFlags := 0, nameIndex := 494, descriptorIndex := 142, attributes := #[] }, { accessFlags := 8, nameIndex := 501, descriptorIndex := 391, attributes := #[] }] 49 2 #[1106, 1108, 575, 1110, 1112] #[{ accessFlags := 18, nameIndex := 13, descriptorIndex := 14, attributes := #[] }, { accessFlags := 18, nameIndex := 17, descriptorIndex := 18, attributes := #[] }, { accessFlags := 2, nameIndex := 21, descriptorIndex := 22, attributes := #[] }, { accessFlags := 2, nameIndex := 25, descriptorIndex := 26, attributes := #[] }, { accessFlags := 26, nameIndex := 1116, descriptorIndex := 1117, attributes := #[] }, { accessFlags := 24, nameIndex := 40, descriptorIndex := 26, attributes := #[] }, { accessFlags := 26, nameIndex := 1101, descriptorIndex := 1102, attributes := #[] }, { accessFlags := 26, nameIndex := 1121, descriptorIndex := 1122, attributes := #[] }, { accessFlags := 25, nameIndex := 599, descriptorIndex := 600, attributes := #[] }, { accessFlags := 24, nameIndex := 1125, descriptorIndex := 18, attributes := #[] }, { accessFlags := 24, nameIndex := 1127, descriptorIndex := 18, attributes := #[] }])
  fields := #[{ name := "value", type := (.array .byte), accessFlags := 18, slot := 0, constantValue := 0 }, { name := "coder", type := .byte, accessFlags := 18, slot := 1, constantValue := 0 }, { name := "hash", type := .int, accessFlags := 2, slot := 2, constantValue := 0 }, { name := "hashIsZero", type := .boolean, accessFlags := 2, slot := 3, constantValue := 0 }, { name := "serialVersionUID", type := .long, accessFlags := 26, slot := 0, constantValue := 0 }, { name := "COMPACT_STRINGS", type := .boolean, accessFlags := 24, slot := 1, constantValue := 0 }, { name := "serialPersistentFields", type := (.array (.object "java/io/ObjectStreamField")), accessFlags := 26, slot := 2, constantValue := 0 }, { name := "REPL", type := .char, accessFlags := 26, slot := 3, constantValue := 0 }, { name := "CASE_INSENSITIVE_ORDER", type := (.object "java/util/Comparator"), accessFlags := 25, slot := 4, constantValue := 0 }, { name := "LATIN1", type := .byte, accessFlags := 24, slot := 5, constantValue := 0 }, { name := "UTF16", type := .byte, accessFlags := 24, slot := 6, constantValue := 0 }]
  methods := #[k7m0, k7m1, k7m2, k7m3, k7m4, k7m5, k7m6, k7m7, k7m8]
  instanceTypes := #[(.array .byte), .byte, .int, .boolean]
  staticTypes := #[.long, .boolean, (.array (.object "java/io/ObjectStreamField")), .char, (.object "java/util/Comparator"), .byte, .byte]
  resolved := Array.replicate 1451 none
  statics := some 0 }

def pool8 : Array CpInfo := pool [(1, .class_ 2), (0, u "java/lang/String"), (1, .class_ 6), (1, u "java/lang/Object"), (0, u "<init>"), (0, u "()V"), (0, .methodref 1 10), (0, .nameAndType 11 12), (0, u "checkIndex"), (0, u "(II)V"), (1, .class_ 16), (1, u "java/lang/StringLatin1"), (36, u "([BI)C"), (67, u "$assertionsDisabled"), (0, u "Z"), (98, .class_ 223), (1, u "java/lang/StringLatin1$LinesSpliterator"), (28, u "charAt"), (28, u "equals"), (0, u "([B[B)Z"), (107, .class_ 391), (0, u "java/lang/StringLatin1$CharsSpliterator")] 3

def k8m0 : Method := { name := "<init>", desc := "()V", sig := { parameters := [], returnType := none }, accessFlags := 0, code := none }
def k8c1 : Code := { maxStack := 2, maxLocals := 2, code := jdk_43_method_2_code, exceptionTable := #[], attributes := #[] }
def k8m1 : Method := { name := "charAt", desc := "([BI)C", sig := { parameters := [(.array .byte), .int], returnType := some .char }, accessFlags := 9, code := some k8c1 }
def k8c2 : Code := { maxStack := 3, maxLocals := 3, code := jdk_43_method_13_code, exceptionTable := #[], attributes := #[] }
def k8m2 : Method := { name := "equals", desc := "([B[B)Z", sig := { parameters := [(.array .byte), (.array .byte)], returnType := some .boolean }, accessFlags := 9, code := some k8c2 }
/-- java/lang/StringLatin1 -/
def k8 : Class := { plain "java/lang/StringLatin1" (some 0) with
  accessFlags := 48
  interfaces := #[]
  cf := some (fileOf pool8 14 #[.nestMembers #[390, 221]] #[{ accessFlags := 0, nameIndex := 7, descriptorIndex := 8, attributes := #[] }, { accessFlags := 9, nameIndex := 252, descriptorIndex := 53, attributes := #[] }, { accessFlags := 9, nameIndex := 281, descriptorIndex := 282, attributes := #[] }] 48 4 #[] #[{ accessFlags := 4120, nameIndex := 121, descriptorIndex := 122, attributes := #[] }])
  fields := #[{ name := "$assertionsDisabled", type := .boolean, accessFlags := 4120, slot := 0, constantValue := 0 }]
  methods := #[k8m0, k8m1, k8m2]
  instanceTypes := #[]
  staticTypes := #[.boolean]
  resolved := Array.replicate 395 none
  statics := none }

def pool9 : Array CpInfo := pool [(2, .class_ 4), (1, u "java/lang/Object"), (0, u "<init>"), (0, u "()V"), (17, .class_ 26), (1, u "jdk/internal/util/Preconditions"), (6, u "checkIndex"), (21, .class_ 56), (0, u "jdk/internal/util/Preconditions$4"), (57, .class_ 115), (0, u "jdk/internal/util/Preconditions$1"), (7, u "SIOOBE_FORMATTER"), (0, u "Ljava/util/function/BiFunction;"), (0, .class_ 126), (0, u "jdk/internal/util/Preconditions$2"), (3, u "AIOOBE_FORMATTER"), (0, .class_ 132), (0, u "jdk/internal/util/Preconditions$3"), (3, u "IOOBE_FORMATTER"), (41, u "(IILjava/util/function/BiFunction;)I")] 15

def k9m0 : Method := { name := "<init>", desc := "()V", sig := { parameters := [], returnType := none }, accessFlags := 1, code := none }
def k9c1 : Code := { maxStack := 3, maxLocals := 3, code := jdk_41_method_11_code, exceptionTable := #[], attributes := #[] }
def k9m1 : Method := { name := "checkIndex", desc := "(IILjava/util/function/BiFunction;)I", sig := { parameters := [.int, .int, (.object "java/util/function/BiFunction")], returnType := some .int }, accessFlags := 9, code := some k9c1 }
/-- jdk/internal/util/Preconditions -/
def k9 : Class := { plain "jdk/internal/util/Preconditions" (some 0) with
  accessFlags := 33
  interfaces := #[]
  cf := some (fileOf pool9 24 #[.nestMembers #[55, 131, 125, 114]] #[{ accessFlags := 1, nameIndex := 5, descriptorIndex := 6, attributes := #[] }, { accessFlags := 9, nameIndex := 33, descriptorIndex := 178, attributes := #[] }] 33 2 #[] #[{ accessFlags := 25, nameIndex := 123, descriptorIndex := 124, attributes := #[] }, { accessFlags := 25, nameIndex := 130, descriptorIndex := 124, attributes := #[] }, { accessFlags := 25, nameIndex := 136, descriptorIndex := 124, attributes := #[] }])
  fields := #[{ name := "SIOOBE_FORMATTER", type := (.object "java/util/function/BiFunction"), accessFlags := 25, slot := 0, constantValue := 0 }, { name := "AIOOBE_FORMATTER", type := (.object "java/util/function/BiFunction"), accessFlags := 25, slot := 1, constantValue := 0 }, { name := "IOOBE_FORMATTER", type := (.object "java/util/function/BiFunction"), accessFlags := 25, slot := 2, constantValue := 0 }]
  methods := #[k9m0, k9m1]
  instanceTypes := #[]
  staticTypes := #[(.object "java/util/function/BiFunction"), (.object "java/util/function/BiFunction"), (.object "java/util/function/BiFunction")]
  resolved := Array.replicate 194 none
  statics := some 1 }

def pool10 : Array CpInfo := pool [(6, .class_ 8), (1, u "java/lang/Object"), (0, u "<init>"), (0, u "()V"), (1, .class_ 14), (1, u "java/lang/StringUTF16"), (31, u "$assertionsDisabled"), (0, u "Z"), (13, u "HI_BYTE_SHIFT"), (0, u "I"), (2, u "LO_BYTE_SHIFT"), (49, .methodref 12 116), (0, .nameAndType 117 118), (0, u "compress"), (0, u "([CI[BII)I"), (3, u "([CII)[B"), (138, u "coderFromArrayLen"), (0, u "([BI)B"), (106, .class_ 371), (1, u "java/lang/StringUTF16$LinesSpliterator"), (58, u "MAX_LENGTH"), (196, .class_ 628), (0, u "java/lang/StringUTF16$CodePointsSpliterator"), (0, .class_ 630), (0, u "java/lang/StringUTF16$CharsSpliterator")] 4

def k10m0 : Method := { name := "<init>", desc := "()V", sig := { parameters := [], returnType := none }, accessFlags := 0, code := none }
def k10c1 : Code := { maxStack := 2, maxLocals := 2, code := jdk_52_method_15_code, exceptionTable := #[], attributes := #[] }
def k10m1 : Method := { name := "coderFromArrayLen", desc := "([BI)B", sig := { parameters := [(.array .byte), .int], returnType := some .byte }, accessFlags := 8, code := some k10c1 }
def k10c2 : Code := { maxStack := 5, maxLocals := 6, code := jdk_52_method_16_code, exceptionTable := #[], attributes := #[] }
def k10m2 : Method := { name := "compress", desc := "([CII)[B", sig := { parameters := [(.array .char), .int, .int], returnType := some (.array .byte) }, accessFlags := 9, code := some k10c2 }
def k10c3 : Code := { maxStack := 3, maxLocals := 7, code := jdk_52_method_21_code, exceptionTable := #[], attributes := #[] }
def k10m3 : Method := { name := "compress", desc := "([CI[BII)I", sig := { parameters := [(.array .char), .int, (.array .byte), .int, .int], returnType := some .int }, accessFlags := 9, code := some k10c3 }
/-- java/lang/StringUTF16 -/
def k10 : Class := { plain "java/lang/StringUTF16" (some 0) with
  accessFlags := 48
  interfaces := #[]
  cf := some (fileOf pool10 12 #[.nestMembers #[627, 629, 369]] #[{ accessFlags := 0, nameIndex := 9, descriptorIndex := 10, attributes := #[] }, { accessFlags := 8, nameIndex := 261, descriptorIndex := 262, attributes := #[] }, { accessFlags := 9, nameIndex := 117, descriptorIndex := 122, attributes := #[] }, { accessFlags := 9, nameIndex := 117, descriptorIndex := 118, attributes := #[] }] 48 6 #[] #[{ accessFlags := 26, nameIndex := 61, descriptorIndex := 62, attributes := #[] }, { accessFlags := 26, nameIndex := 65, descriptorIndex := 62, attributes := #[] }, { accessFlags := 24, nameIndex := 430, descriptorIndex := 62, attributes := #[] }, { accessFlags := 4120, nameIndex := 46, descriptorIndex := 47, attributes := #[] }])
  fields := #[{ name := "HI_BYTE_SHIFT", type := .int, accessFlags := 26, slot := 0, constantValue := 0 }, { name := "LO_BYTE_SHIFT", type := .int, accessFlags := 26, slot := 1, constantValue := 0 }, { name := "MAX_LENGTH", type := .int, accessFlags := 24, slot := 2, constantValue := 0 }, { name := "$assertionsDisabled", type := .boolean, accessFlags := 4120, slot := 3, constantValue := 0 }]
  methods := #[k10m0, k10m1, k10m2, k10m3]
  instanceTypes := #[]
  staticTypes := #[.int, .int, .int, .boolean]
  resolved := Array.replicate 635 none
  statics := none }

def pool11 : Array CpInfo := pool [(2, .class_ 4), (1, u "java/lang/Enum"), (0, u "name"), (0, u "Ljava/lang/String;"), (2, u "ordinal"), (0, u "I"), (1, .class_ 14), (1, u "java/lang/Object"), (4, u "hash"), (86, .class_ 108), (1, u "java/lang/Enum$EnumDesc"), (2, .class_ 112), (0, u "java/lang/constant/Constable"), (0, .class_ 114), (0, u "java/lang/Comparable"), (0, .class_ 116), (0, u "java/io/Serializable")] 87

/-- java/lang/Enum -/
def k11 : Class := { plain "java/lang/Enum" (some 0) with
  accessFlags := 1057
  interfaces := #[5, 3, 2]
  cf := some (fileOf pool11 2 #[.nestMembers #[106]] #[] 1057 12 #[111, 113, 115] #[{ accessFlags := 18, nameIndex := 5, descriptorIndex := 6, attributes := #[] }, { accessFlags := 18, nameIndex := 9, descriptorIndex := 10, attributes := #[] }, { accessFlags := 2, nameIndex := 19, descriptorIndex := 10, attributes := #[] }])
  fields := #[{ name := "name", type := (.object "java/lang/String"), accessFlags := 18, slot := 0, constantValue := 0 }, { name := "ordinal", type := .int, accessFlags := 18, slot := 1, constantValue := 0 }, { name := "hash", type := .int, accessFlags := 2, slot := 2, constantValue := 0 }]
  methods := #[]
  instanceTypes := #[(.object "java/lang/String"), .int, .int]
  staticTypes := #[]
  resolved := Array.replicate 204 none
  statics := none }

def pool12 : Array CpInfo := pool [(1, .class_ 2), (0, u "com/example/ensyn/ensyn/region/NetClass"), (2, u "PLAIN"), (0, u "Lcom/example/ensyn/ensyn/region/NetClass;"), (2, u "PURE"), (2, u "WEIGHTED_MARKED_GRAPH"), (2, u "CHOICE_FREE"), (0, .fieldref 1 17), (0, .nameAndType 18 19), (0, u "$VALUES"), (0, u "[Lcom/example/ensyn/ensyn/region/NetClass;"), (0, .methodref 21 22), (0, .class_ 19), (0, .nameAndType 23 24), (0, u "clone"), (0, u "()Ljava/lang/Object;"), (1, .class_ 28), (1, u "java/lang/Enum"), (6, .fieldref 1 36), (0, .nameAndType 37 38), (0, u "shortName"), (0, u "Ljava/lang/String;"), (0, .methodref 40 41), (0, .class_ 42), (0, .nameAndType 43 44), (0, u "java/util/Optional"), (0, u "empty"), (0, u "()Ljava/util/Optional;"), (0, .methodref 1 46), (0, .nameAndType 47 48), (0, u "values"), (0, u "()[Lcom/example/ensyn/ensyn/region/NetClass;"), (0, .methodref 50 51), (0, .class_ 52), (0, .nameAndType 53 54), (0, u "java/lang/String"), (0, u "equals"), (0, u "(Ljava/lang/Object;)Z"), (0, .methodref 40 56), (0, .nameAndType 57 58), (0, u "of"), (0, u "(Ljava/lang/Object;)Ljava/util/Optional;"), (136, u "named"), (0, u "(Ljava/lang/String;)Ljava/util/Optional;")] 47

def k12c0 : Code := { maxStack := 1, maxLocals := 0, code := prog_17_method_1_code, exceptionTable := #[], attributes := #[] }
def k12m0 : Method := { name := "values", desc := "()[Lcom/example/ensyn/ensyn/region/NetClass;", sig := { parameters := [], returnType := some (.array (.object "com/example/ensyn/ensyn/region/NetClass")) }, accessFlags := 9, code := some k12c0 }
def k12c1 : Code := { maxStack := 2, maxLocals := 6, code := prog_17_method_4_code, exceptionTable := #[], attributes := #[] }
def k12m1 : Method := { name := "named", desc := "(Ljava/lang/String;)Ljava/util/Optional;", sig := { parameters := [(.object "java/lang/String")], returnType := some (.object "java/util/Optional") }, accessFlags := 9, code := some k12c1 }
/-- com/example/ensyn/ensyn/region/NetClass -/
def k12 : Class := { plain "com/example/ensyn/ensyn/region/NetClass" (some 11) with
  accessFlags := 16433
  interfaces := #[]
  cf := some (fileOf pool12 1 #[] #[{ accessFlags := 9, nameIndex := 47, descriptorIndex := 48, attributes := #[] }, { accessFlags := 9, nameIndex := 195, descriptorIndex := 196, attributes := #[] }] 16433 26 #[] #[{ accessFlags := 16409, nameIndex := 5, descriptorIndex := 6, attributes := #[] }, { accessFlags := 16409, nameIndex := 9, descriptorIndex := 6, attributes := #[] }, { accessFlags := 16409, nameIndex := 12, descriptorIndex := 6, attributes := #[] }, { accessFlags := 16409, nameIndex := 15, descriptorIndex := 6, attributes := #[] }, { accessFlags := 18, nameIndex := 37, descriptorIndex := 38, attributes := #[] }, { accessFlags := 4122, nameIndex := 18, descriptorIndex := 19, attributes := #[] }])
  fields := #[{ name := "PLAIN", type := (.object "com/example/ensyn/ensyn/region/NetClass"), accessFlags := 16409, slot := 0, constantValue := 0 }, { name := "PURE", type := (.object "com/example/ensyn/ensyn/region/NetClass"), accessFlags := 16409, slot := 1, constantValue := 0 }, { name := "WEIGHTED_MARKED_GRAPH", type := (.object "com/example/ensyn/ensyn/region/NetClass"), accessFlags := 16409, slot := 2, constantValue := 0 }, { name := "CHOICE_FREE", type := (.object "com/example/ensyn/ensyn/region/NetClass"), accessFlags := 16409, slot := 3, constantValue := 0 }, { name := "shortName", type := (.object "java/lang/String"), accessFlags := 18, slot := 3, constantValue := 0 }, { name := "$VALUES", type := (.array (.object "com/example/ensyn/ensyn/region/NetClass")), accessFlags := 4122, slot := 4, constantValue := 0 }]
  methods := #[k12m0, k12m1]
  instanceTypes := #[(.object "java/lang/String"), .int, .int, (.object "java/lang/String")]
  staticTypes := #[(.object "com/example/ensyn/ensyn/region/NetClass"), (.object "com/example/ensyn/ensyn/region/NetClass"), (.object "com/example/ensyn/ensyn/region/NetClass"), (.object "com/example/ensyn/ensyn/region/NetClass"), (.array (.object "com/example/ensyn/ensyn/region/NetClass"))]
  resolved := Array.replicate 244 none
  statics := some 2 }

def pool13 : Array CpInfo := pool [(1, .fieldref 2 3), (0, .class_ 4), (0, .nameAndType 5 6), (0, u "java/util/Optional"), (0, u "EMPTY"), (0, u "Ljava/util/Optional;"), (0, .methodref 8 9), (0, .class_ 10), (0, .nameAndType 11 12), (0, u "java/lang/Object"), (0, u "<init>"), (0, u "()V"), (0, .fieldref 2 14), (0, .nameAndType 15 16), (0, u "value"), (0, u "Ljava/lang/Object;"), (0, .methodref 18 19), (0, .class_ 20), (0, .nameAndType 21 22), (0, u "java/util/Objects"), (0, u "requireNonNull"), (0, u "(Ljava/lang/Object;)Ljava/lang/Object;"), (0, .methodref 2 24), (0, .nameAndType 11 25), (0, u "(Ljava/lang/Object;)V"), (20, u "()Z"), (8, u "empty"), (0, u "()Ljava/util/Optional;"), (8, u "(Ljava/lang/Object;)Ljava/util/Optional;"), (2, u "isPresent"), (4, u "get"), (0, u "()Ljava/lang/Object;"), (7, u "of")] 104

def k13c0 : Code := { maxStack := 1, maxLocals := 1, code := jdk_32_method_1_code, exceptionTable := #[], attributes := #[] }
def k13m0 : Method := { name := "empty", desc := "()Ljava/util/Optional;", sig := { parameters := [], returnType := some (.object "java/util/Optional") }, accessFlags := 9, code := some k13c0 }
def k13c1 : Code := { maxStack := 2, maxLocals := 2, code := jdk_32_method_2_code, exceptionTable := #[], attributes := #[] }
def k13m1 : Method := { name := "<init>", desc := "(Ljava/lang/Object;)V", sig := { parameters := [(.object "java/lang/Object")], returnType := none }, accessFlags := 2, code := some k13c1 }
def k13c2 : Code := { maxStack := 3, maxLocals := 1, code := jdk_32_method_3_code, exceptionTable := #[], attributes := #[] }
def k13m2 : Method := { name := "of", desc := "(Ljava/lang/Object;)Ljava/util/Optional;", sig := { parameters := [(.object "java/lang/Object")], returnType := some (.object "java/util/Optional") }, accessFlags := 9, code := some k13c2 }
def k13c3 : Code := { maxStack := 3, maxLocals := 1, code := jdk_32_method_5_code, exceptionTable := #[], attributes := #[] }
def k13m3 : Method := { name := "get", desc := "()Ljava/lang/Object;", sig := { parameters := [], returnType := some (.object "java/lang/Object") }, accessFlags := 1, code := some k13c3 }
def k13c4 : Code := { maxStack := 1, maxLocals := 1, code := jdk_32_method_6_code, exceptionTable := #[], attributes := #[] }
def k13m4 : Method := { name := "isPresent", desc := "()Z", sig := { parameters := [], returnType := some .boolean }, accessFlags := 1, code := some k13c4 }
/-- java/util/Optional -/
def k13 : Class := { plain "java/util/Optional" (some 0) with
  accessFlags := 49
  interfaces := #[]
  cf := some (fileOf pool13 2 #[] #[{ accessFlags := 9, nameIndex := 55, descriptorIndex := 56, attributes := #[] }, { accessFlags := 2, nameIndex := 11, descriptorIndex := 25, attributes := #[] }, { accessFlags := 9, nameIndex := 82, descriptorIndex := 65, attributes := #[] }, { accessFlags := 1, nameIndex := 73, descriptorIndex := 74, attributes := #[] }, { accessFlags := 1, nameIndex := 68, descriptorIndex := 46, attributes := #[] }] 49 8 #[] #[{ accessFlags := 26, nameIndex := 5, descriptorIndex := 6, attributes := #[] }, { accessFlags := 18, nameIndex := 15, descriptorIndex := 16, attributes := #[] }])
  fields := #[{ name := "EMPTY", type := (.object "java/util/Optional"), accessFlags := 26, slot := 0, constantValue := 0 }, { name := "value", type := (.object "java/lang/Object"), accessFlags := 18, slot := 0, constantValue := 0 }]
  methods := #[k13m0, k13m1, k13m2, k13m3, k13m4]
  instanceTypes := #[(.object "java/lang/Object")]
  staticTypes := #[(.object "java/util/Optional")]
  resolved := Array.replicate 187 none
  statics := some 3 }

def pool14 : Array CpInfo := pool [(1, .class_ 2), (0, u "java/lang/Cloneable"), (0, .class_ 4), (0, u "java/lang/Object")] 2

/-- java/lang/Cloneable -/
def k14 : Class := { plain "java/lang/Cloneable" (some 0) with
  accessFlags := 1537
  interfaces := #[]
  cf := some (fileOf pool14 1 #[] #[] 1537 3 #[] #[])
  fields := #[]
  methods := #[]
  instanceTypes := #[]
  staticTypes := #[]
  resolved := Array.replicate 7 none
  statics := none }

def pool15 : Array CpInfo := pool [(2, .class_ 4), (1, u "java/lang/Object"), (0, u "<init>"), (0, u "()V"), (35, .class_ 44), (1, u "java/util/Objects"), (0, u "requireNonNull"), (0, u "(Ljava/lang/Object;)Ljava/lang/Object;")] 137

def k15m0 : Method := { name := "<init>", desc := "()V", sig := { parameters := [], returnType := none }, accessFlags := 2, code := none }
def k15c1 : Code := { maxStack := 2, maxLocals := 1, code := jdk_31_method_10_code, exceptionTable := #[], attributes := #[] }
def k15m1 : Method := { name := "requireNonNull", desc := "(Ljava/lang/Object;)Ljava/lang/Object;", sig := { parameters := [(.object "java/lang/Object")], returnType := some (.object "java/lang/Object") }, accessFlags := 9, code := some k15c1 }
/-- java/util/Objects -/
def k15 : Class := { plain "java/util/Objects" (some 0) with
  accessFlags := 49
  interfaces := #[]
  cf := some (fileOf pool15 42 #[] #[{ accessFlags := 2, nameIndex := 5, descriptorIndex := 6, attributes := #[] }, { accessFlags := 9, nameIndex := 45, descriptorIndex := 46, attributes := #[] }] 49 2 #[] #[])
  fields := #[]
  methods := #[k15m0, k15m1]
  instanceTypes := #[]
  staticTypes := #[]
  resolved := Array.replicate 184 none
  statics := none }

def pool16 : Array CpInfo := pool [(9, u "<init>"), (6, .class_ 18), (1, u "java/lang/Object"), (0, u "()V"), (1, .class_ 23), (1, u "jdk/internal/util/ArraysSupport"), (0, u "LOG2_ARRAY_LONG_INDEX_SCALE"), (0, u "I"), (2, u "U"), (0, u "Ljdk/internal/misc/Unsafe;"), (8, u "BIG_ENDIAN"), (0, u "Z"), (8, u "LOG2_BYTE_BIT_SIZE"), (4, u "LOG2_ARRAY_INT_INDEX_SCALE"), (54, u "JLA"), (0, u "Ljdk/internal/access/JavaLangAccess;"), (11, u "LOG2_ARRAY_BOOLEAN_INDEX_SCALE"), (9, u "LOG2_ARRAY_BYTE_INDEX_SCALE"), (5, u "LOG2_ARRAY_CHAR_INDEX_SCALE"), (5, u "LOG2_ARRAY_SHORT_INDEX_SCALE"), (18, u "LOG2_ARRAY_FLOAT_INDEX_SCALE"), (24, u "LOG2_ARRAY_DOUBLE_INDEX_SCALE"), (89, u "T_BOOLEAN"), (2, u "T_CHAR"), (1, u "T_FLOAT"), (1, u "T_DOUBLE"), (1, u "T_BYTE"), (1, u "T_SHORT"), (1, u "T_INT"), (1, u "T_LONG"), (1, u "SOFT_MAX_ARRAY_LENGTH")] 83

def k16m0 : Method := { name := "<init>", desc := "()V", sig := { parameters := [], returnType := none }, accessFlags := 2, code := none }
/-- jdk/internal/util/ArraysSupport -/
def k16 : Class := { plain "jdk/internal/util/ArraysSupport" (some 0) with
  accessFlags := 33
  interfaces := #[]
  cf := some (fileOf pool16 21 #[] #[{ accessFlags := 2, nameIndex := 9, descriptorIndex := 19, attributes := #[] }] 33 16 #[] #[{ accessFlags := 24, nameIndex := 28, descriptorIndex := 29, attributes := #[] }, { accessFlags := 26, nameIndex := 38, descriptorIndex := 39, attributes := #[] }, { accessFlags := 25, nameIndex := 121, descriptorIndex := 25, attributes := #[] }, { accessFlags := 25, nameIndex := 131, descriptorIndex := 25, attributes := #[] }, { accessFlags := 25, nameIndex := 137, descriptorIndex := 25, attributes := #[] }, { accessFlags := 25, nameIndex := 143, descriptorIndex := 25, attributes := #[] }, { accessFlags := 25, nameIndex := 53, descriptorIndex := 25, attributes := #[] }, { accessFlags := 25, nameIndex := 24, descriptorIndex := 25, attributes := #[] }, { accessFlags := 25, nameIndex := 162, descriptorIndex := 25, attributes := #[] }, { accessFlags := 25, nameIndex := 187, descriptorIndex := 25, attributes := #[] }, { accessFlags := 26, nameIndex := 48, descriptorIndex := 25, attributes := #[] }, { accessFlags := 25, nameIndex := 277, descriptorIndex := 25, attributes := #[] }, { accessFlags := 25, nameIndex := 280, descriptorIndex := 25, attributes := #[] }, { accessFlags := 25, nameIndex := 282, descriptorIndex := 25, attributes := #[] }, { accessFlags := 25, nameIndex := 284, descriptorIndex := 25, attributes := #[] }, { accessFlags := 25, nameIndex := 286, descriptorIndex := 25, attributes := #[] }, { accessFlags := 25, nameIndex := 288, descriptorIndex := 25, attributes := #[] }, { accessFlags := 25, nameIndex := 290, descriptorIndex := 25, attributes := #[] }, { accessFlags := 25, nameIndex := 292, descriptorIndex := 25, attributes := #[] }, { accessFlags := 26, nameIndex := 108, descriptorIndex := 109, attributes := #[] }, { accessFlags := 25, nameIndex := 294, descriptorIndex := 25, attributes := #[] }])
  fields := #[{ name := "U", type := (.object "jdk/internal/misc/Unsafe"), accessFlags := 24, slot := 0, constantValue := 0 }, { name := "BIG_ENDIAN", type := .boolean, accessFlags := 26, slot := 1, constantValue := 0 }, { name := "LOG2_ARRAY_BOOLEAN_INDEX_SCALE", type := .int, accessFlags := 25, slot := 2, constantValue := 0 }, { name := "LOG2_ARRAY_BYTE_INDEX_SCALE", type := .int, accessFlags := 25, slot := 3, constantValue := 0 }, { name := "LOG2_ARRAY_CHAR_INDEX_SCALE", type := .int, accessFlags := 25, slot := 4, constantValue := 0 }, { name := "LOG2_ARRAY_SHORT_INDEX_SCALE", type := .int, accessFlags := 25, slot := 5, constantValue := 0 }, { name := "LOG2_ARRAY_INT_INDEX_SCALE", type := .int, accessFlags := 25, slot := 6, constantValue := 0 }, { name := "LOG2_ARRAY_LONG_INDEX_SCALE", type := .int, accessFlags := 25, slot := 7, constantValue := 0 }, { name := "LOG2_ARRAY_FLOAT_INDEX_SCALE", type := .int, accessFlags := 25, slot := 8, constantValue := 0 }, { name := "LOG2_ARRAY_DOUBLE_INDEX_SCALE", type := .int, accessFlags := 25, slot := 9, constantValue := 0 }, { name := "LOG2_BYTE_BIT_SIZE", type := .int, accessFlags := 26, slot := 10, constantValue := 0 }, { name := "T_BOOLEAN", type := .int, accessFlags := 25, slot := 11, constantValue := 0 }, { name := "T_CHAR", type := .int, accessFlags := 25, slot := 12, constantValue := 0 }, { name := "T_FLOAT", type := .int, accessFlags := 25, slot := 13, constantValue := 0 }, { name := "T_DOUBLE", type := .int, accessFlags := 25, slot := 14, constantValue := 0 }, { name := "T_BYTE", type := .int, accessFlags := 25, slot := 15, constantValue := 0 }, { name := "T_SHORT", type := .int, accessFlags := 25, slot := 16, constantValue := 0 }, { name := "T_INT", type := .int, accessFlags := 25, slot := 17, constantValue := 0 }, { name := "T_LONG", type := .int, accessFlags := 25, slot := 18, constantValue := 0 }, { name := "JLA", type := (.object "jdk/internal/access/JavaLangAccess"), accessFlags := 26, slot := 19, constantValue := 0 }, { name := "SOFT_MAX_ARRAY_LENGTH", type := .int, accessFlags := 25, slot := 20, constantValue := 0 }]
  methods := #[k16m0]
  instanceTypes := #[]
  staticTypes := #[(.object "jdk/internal/misc/Unsafe"), .boolean, .int, .int, .int, .int, .int, .int, .int, .int, .int, .int, .int, .int, .int, .int, .int, .int, .int, (.object "jdk/internal/access/JavaLangAccess"), .int]
  resolved := Array.replicate 378 none
  statics := none }

/-- the primitive byte -/
def k17 : Class := { plain "byte" none with kind := .primitive 'B', accessFlags := 0x411 }
/-- [B -/
def k18 : Class := { plain "[B" (some 0) with kind := .array 17 .byte, interfaces := #[14, 2], accessFlags := 1041 }

/-- the primitive char -/
def k19 : Class := { plain "char" none with kind := .primitive 'C', accessFlags := 0x411 }
/-- [C -/
def k20 : Class := { plain "[C" (some 0) with kind := .array 19 .char, interfaces := #[14, 2], accessFlags := 1041 }

/-- the primitive int -/
def k21 : Class := { plain "int" none with kind := .primitive 'I', accessFlags := 0x411 }
/-- [I -/
def k22 : Class := { plain "[I" (some 0) with kind := .array 21 .int, interfaces := #[14, 2], accessFlags := 1041 }

/-- [Lcom/example/ensyn/ensyn/region/NetClass; -/
def k23 : Class := { plain "[Lcom/example/ensyn/ensyn/region/NetClass;" (some 0) with kind := .array 12 (.object "com/example/ensyn/ensyn/region/NetClass"), interfaces := #[14, 2], accessFlags := 1041 }

def heap : Heap := #[{ cls := 7, slots := #[.long 0, .int 1, .null, .int 0, .null, .int 0, .int 0], vm := .statics 7 },
  { cls := 9, slots := #[.null, .null, .null], vm := .statics 9 },
  { cls := 12, slots := #[.ref 5, .ref 6, .ref 7, .ref 8, .ref 4], vm := .statics 12 },
  { cls := 13, slots := #[.ref 17], vm := .statics 13 },
  { cls := 23, slots := #[.ref 5, .ref 6, .ref 7, .ref 8], vm := .none },
  { cls := 12, slots := #[.null, .int 0, .int 0, .ref 9], vm := .none },
  { cls := 12, slots := #[.null, .int 1, .int 0, .ref 10], vm := .none },
  { cls := 12, slots := #[.null, .int 2, .int 0, .ref 11], vm := .none },
  { cls := 12, slots := #[.null, .int 3, .int 0, .ref 12], vm := .none },
  { cls := 7, slots := #[.ref 13, .int 0, .int 0, .int 0], vm := .none },
  { cls := 7, slots := #[.ref 14, .int 0, .int 0, .int 0], vm := .none },
  { cls := 7, slots := #[.ref 15, .int 0, .int 0, .int 0], vm := .none },
  { cls := 7, slots := #[.ref 16, .int 0, .int 0, .int 0], vm := .none },
  { cls := 18, slots := #[.int 112, .int 108, .int 97, .int 105, .int 110], vm := .none },
  { cls := 18, slots := #[.int 112, .int 117, .int 114, .int 101], vm := .none },
  { cls := 18, slots := #[.int 119, .int 109, .int 103], vm := .none },
  { cls := 18, slots := #[.int 99, .int 102], vm := .none },
  { cls := 13, slots := #[.null], vm := .none }]
def classes : Array Class := #[k0, k1, k2, k3, k4, k5, k6, k7, k8, k9, k10, k11, k12, k13, k14, k15, k16, k17, k18, k19, k20, k21, k22, k23]
def interned : List (Array UInt16 × Addr) := []
def slotsUsed : Nat := 67
def theMethod : MethodId := ⟨1, 1⟩
def args0 : Array Value := #[.int 1, .int 5, .int 3, .int 2, .long 7]
def aboutOver (below : List Frame) : State where
  vm := { classes := classes, interned := interned.toArray }
  heap := heap
  slotsUsed := slotsUsed
  threads := #[{ frames := .invoking theMethod args0 :: below }]
def below0 : List Frame := [.native { method := ⟨0, 0⟩, args := #[] }]
def about1 : State := aboutOver below0
def p0 : Program := .bare "" "" ""
def e0 : Env := launch0.env 0 0 0
theorem w_frames : about1.frames = Frame.invoking theMethod args0 :: below0 := rfl
set_option maxRecDepth 65536 in
theorem w_args : argsFit about1.vm theMethod args0 = true := by decide +kernel
set_option maxRecDepth 65536 in
theorem w_heap : heapFits about1 = true := by decide +kernel
set_option maxRecDepth 65536 in
theorem w_runnable : about1.curStatus? = some .runnable := by decide +kernel
set_option maxRecDepth 65536 in
theorem w_alone : about1.alone = true := by decide +kernel
set_option maxRecDepth 65536 in
theorem w_named : about1.methodNamed? x = some theMethod := by decide +kernel
set_option maxRecDepth 65536 in
theorem w_hears : about1.hears theMethod below0 = true := by decide +kernel
set_option maxRecDepth 65536 in
theorem w_ripe : about1.ripe theMethod args0 below0 = true := by decide +kernel
theorem w_running : about1.status = .running := rfl
set_option maxRecDepth 65536 in
theorem w_room : about1.hasRoom e0.platform room_1 = true :=
  launch0.hasRoom_least _ room_1 (by decide +kernel) (by decide +kernel) (by decide +kernel) (by decide +kernel) (by decide +kernel) (by decide +kernel)
theorem allAtoms_all (ts : List Jvm.Cond) (a : Array Jvm.Value) (st : Jvm.State) : (allAtoms ts).before a st = ts.all (fun c => c.before a st) := by
  induction ts with
  | nil => rfl
  | cons c t ih =>
    show (Jvm.Cond.and c (allAtoms t)).before a st = _
    rw [Jvm.Cond.before_and, ih, List.all_cons]
def words1 : List Jvm.Cond := Jvm.Cond.code x code maxLocals ret :: tables_1
/-- a 'code' word, met by the world's own term for the bytes: nothing is compared byte by byte -/
theorem code_word {y : MethodName} {bytes : ByteArray} {mx : Nat} {rt : Option FieldType} {a : Array Value} {s : State} {m : MethodId} {meth : Method} {c : Code} (h1 : s.methodNamed? y = some m) (h2 : s.vm.method? m = some meth) (h3 : meth.code = some c) (h4 : c.code = bytes)
    (h5 : (c.maxLocals == mx && c.exceptionTable.isEmpty && decide (c.maxStack ≤ mostOperands) && decide (meth.sig.returnType = rt) && !meth.locks && decide (parseMethodDescriptor y.desc = some meth.sig)) = true) : (Jvm.Cond.code y bytes mx rt).before a s = true := by
  simp only [Bool.and_eq_true, beq_iff_eq, Bool.not_eq_true', decide_eq_true_eq] at h5
  obtain ⟨⟨⟨⟨⟨g1, g2⟩, g3⟩, g4⟩, g5⟩, g6⟩ := h5
  simp [Cond.before, Cond.holds, Cond.value, h1, h2, h3, h4, g1, g2, g3, g4, g5, g6]
def isCode : Jvm.Cond → Bool
  | .code _ _ _ _ => true
  | _ => false
theorem all_split {L : List Jvm.Cond} {P : Jvm.Cond → Bool} (h1 : L.all (fun c => isCode c || P c) = true) (h2 : ∀ c ∈ L.filter isCode, P c = true) : L.all P = true := by
  refine List.all_eq_true.mpr fun c hc => ?_
  have h := List.all_eq_true.mp h1 c hc
  rcases Bool.eq_false_or_eq_true (isCode c) with hi | hi
  · exact h2 c (List.mem_filter.mpr ⟨hc, hi⟩)
  · simpa [hi] using h
set_option maxRecDepth 65536 in
theorem w_c0 : (Jvm.Cond.code x code maxLocals ret).before args0 about1 = true := code_word (m := ⟨1, 1⟩) (meth := k1m1) (c := k1c1) (by decide +kernel) rfl rfl rfl (by decide +kernel)
set_option maxRecDepth 65536 in
theorem w_c1 : (Jvm.Cond.code ({ cls := "java/lang/String", name := "length", desc := "()I" } : Jvm.MethodName) jdk_42_method_54_code (1 : Nat) (Option.some Jvm.ClassFile.FieldType.int)).before args0 about1 = true := code_word (m := ⟨7, 2⟩) (meth := k7m2) (c := k7c2) (by decide +kernel) rfl rfl rfl (by decide +kernel)
set_option maxRecDepth 65536 in
theorem w_c2 : (Jvm.Cond.code ({ cls := "java/lang/String", name := "coder", desc := "()B" } : Jvm.MethodName) jdk_42_method_152_code (1 : Nat) (Option.some Jvm.ClassFile.FieldType.byte)).before args0 about1 = true := code_word (m := ⟨7, 6⟩) (meth := k7m6) (c := k7c6) (by decide +kernel) rfl rfl rfl (by decide +kernel)
set_option maxRecDepth 65536 in
theorem w_c3 : (Jvm.Cond.code ({ cls := "com/example/ensyn/ensyn/region/NetClassNamedPinLaw", name := "pick", desc := "(ILjava/lang/String;IJ)C" } : Jvm.MethodName) method_3_code (5 : Nat) (Option.some Jvm.ClassFile.FieldType.char)).before args0 about1 = true := code_word (m := ⟨1, 2⟩) (meth := k1m2) (c := k1c2) (by decide +kernel) rfl rfl rfl (by decide +kernel)
set_option maxRecDepth 65536 in
theorem w_c4 : (Jvm.Cond.code ({ cls := "java/lang/String", name := "charAt", desc := "(I)C" } : Jvm.MethodName) jdk_42_method_56_code (2 : Nat) (Option.some Jvm.ClassFile.FieldType.char)).before args0 about1 = true := code_word (m := ⟨7, 3⟩) (meth := k7m3) (c := k7c3) (by decide +kernel) rfl rfl rfl (by decide +kernel)
set_option maxRecDepth 65536 in
theorem w_c5 : (Jvm.Cond.code ({ cls := "java/lang/String", name := "isLatin1", desc := "()Z" } : Jvm.MethodName) jdk_42_method_154_code (1 : Nat) (Option.some Jvm.ClassFile.FieldType.boolean)).before args0 about1 = true := code_word (m := ⟨7, 7⟩) (meth := k7m7) (c := k7c7) (by decide +kernel) rfl rfl rfl (by decide +kernel)
set_option maxRecDepth 65536 in
theorem w_c6 : (Jvm.Cond.code ({ cls := "java/lang/StringLatin1", name := "charAt", desc := "([BI)C" } : Jvm.MethodName) jdk_43_method_2_code (2 : Nat) (Option.some Jvm.ClassFile.FieldType.char)).before args0 about1 = true := code_word (m := ⟨8, 1⟩) (meth := k8m1) (c := k8c1) (by decide +kernel) rfl rfl rfl (by decide +kernel)
set_option maxRecDepth 65536 in
theorem w_c7 : (Jvm.Cond.code ({ cls := "java/lang/String", name := "checkIndex", desc := "(II)V" } : Jvm.MethodName) jdk_42_method_155_code (2 : Nat) (Option.none : Option Jvm.ClassFile.FieldType)).before args0 about1 = true := code_word (m := ⟨7, 8⟩) (meth := k7m8) (c := k7c8) (by decide +kernel) rfl rfl rfl (by decide +kernel)
set_option maxRecDepth 65536 in
theorem w_c8 : (Jvm.Cond.code ({ cls := "jdk/internal/util/Preconditions", name := "checkIndex", desc := "(IILjava/util/function/BiFunction;)I" } : Jvm.MethodName) jdk_41_method_11_code (3 : Nat) (Option.some Jvm.ClassFile.FieldType.int)).before args0 about1 = true := code_word (m := ⟨9, 1⟩) (meth := k9m1) (c := k9c1) (by decide +kernel) rfl rfl rfl (by decide +kernel)
set_option maxRecDepth 65536 in
theorem w_c9 : (Jvm.Cond.code ({ cls := "com/example/ensyn/ensyn/region/NetClassNamedPinLaw", name := "make", desc := "(ICCCCCC)Ljava/lang/String;" } : Jvm.MethodName) method_4_code (7 : Nat) (Option.some (Jvm.ClassFile.FieldType.object "java/lang/String"))).before args0 about1 = true := code_word (m := ⟨1, 3⟩) (meth := k1m3) (c := k1c3) (by decide +kernel) rfl rfl rfl (by decide +kernel)
set_option maxRecDepth 65536 in
theorem w_c10 : (Jvm.Cond.code ({ cls := "java/lang/String", name := "<init>", desc := "([C)V" } : Jvm.MethodName) jdk_42_method_3_code (2 : Nat) (Option.none : Option Jvm.ClassFile.FieldType)).before args0 about1 = true := code_word (m := ⟨7, 1⟩) (meth := k7m1) (c := k7c1) (by decide +kernel) rfl rfl rfl (by decide +kernel)
set_option maxRecDepth 65536 in
theorem w_c11 : (Jvm.Cond.code ({ cls := "java/lang/String", name := "<init>", desc := "([CIILjava/lang/Void;)V" } : Jvm.MethodName) jdk_42_method_149_code (6 : Nat) (Option.none : Option Jvm.ClassFile.FieldType)).before args0 about1 = true := code_word (m := ⟨7, 5⟩) (meth := k7m5) (c := k7c5) (by decide +kernel) rfl rfl rfl (by decide +kernel)
set_option maxRecDepth 65536 in
theorem w_c12 : (Jvm.Cond.code ({ cls := "java/lang/Object", name := "<init>", desc := "()V" } : Jvm.MethodName) object_method_1_code (1 : Nat) (Option.none : Option Jvm.ClassFile.FieldType)).before args0 about1 = true := code_word (m := ⟨0, 0⟩) (meth := k0m0) (c := k0c0) (by decide +kernel) rfl rfl rfl (by decide +kernel)
set_option maxRecDepth 65536 in
theorem w_c13 : (Jvm.Cond.code ({ cls := "java/lang/StringUTF16", name := "compress", desc := "([CII)[B" } : Jvm.MethodName) jdk_52_method_16_code (6 : Nat) (Option.some (Jvm.ClassFile.FieldType.array Jvm.ClassFile.FieldType.byte))).before args0 about1 = true := code_word (m := ⟨10, 2⟩) (meth := k10m2) (c := k10c2) (by decide +kernel) rfl rfl rfl (by decide +kernel)
set_option maxRecDepth 65536 in
theorem w_c14 : (Jvm.Cond.code ({ cls := "java/lang/StringUTF16", name := "compress", desc := "([CI[BII)I" } : Jvm.MethodName) jdk_52_method_21_code (7 : Nat) (Option.some Jvm.ClassFile.FieldType.int)).before args0 about1 = true := code_word (m := ⟨10, 3⟩) (meth := k10m3) (c := k10c3) (by decide +kernel) rfl rfl rfl (by decide +kernel)
set_option maxRecDepth 65536 in
theorem w_c15 : (Jvm.Cond.code ({ cls := "java/lang/StringUTF16", name := "coderFromArrayLen", desc := "([BI)B" } : Jvm.MethodName) jdk_52_method_15_code (2 : Nat) (Option.some Jvm.ClassFile.FieldType.byte)).before args0 about1 = true := code_word (m := ⟨10, 1⟩) (meth := k10m1) (c := k10c1) (by decide +kernel) rfl rfl rfl (by decide +kernel)
set_option maxRecDepth 65536 in
theorem w_c16 : (Jvm.Cond.code ({ cls := "java/lang/String", name := "equals", desc := "(Ljava/lang/Object;)Z" } : Jvm.MethodName) jdk_42_method_66_code (3 : Nat) (Option.some Jvm.ClassFile.FieldType.boolean)).before args0 about1 = true := code_word (m := ⟨7, 4⟩) (meth := k7m4) (c := k7c4) (by decide +kernel) rfl rfl rfl (by decide +kernel)
set_option maxRecDepth 65536 in
theorem w_c17 : (Jvm.Cond.code ({ cls := "java/lang/StringLatin1", name := "equals", desc := "([B[B)Z" } : Jvm.MethodName) jdk_43_method_13_code (3 : Nat) (Option.some Jvm.ClassFile.FieldType.boolean)).before args0 about1 = true := code_word (m := ⟨8, 2⟩) (meth := k8m2) (c := k8c2) (by decide +kernel) rfl rfl rfl (by decide +kernel)
set_option maxRecDepth 65536 in
theorem w_c18 : (Jvm.Cond.code ({ cls := "com/example/ensyn/ensyn/region/NetClass", name := "named", desc := "(Ljava/lang/String;)Ljava/util/Optional;" } : Jvm.MethodName) prog_17_method_4_code (6 : Nat) (Option.some (Jvm.ClassFile.FieldType.object "java/util/Optional"))).before args0 about1 = true := code_word (m := ⟨12, 1⟩) (meth := k12m1) (c := k12c1) (by decide +kernel) rfl rfl rfl (by decide +kernel)
set_option maxRecDepth 65536 in
theorem w_c19 : (Jvm.Cond.code ({ cls := "java/util/Optional", name := "empty", desc := "()Ljava/util/Optional;" } : Jvm.MethodName) jdk_32_method_1_code (1 : Nat) (Option.some (Jvm.ClassFile.FieldType.object "java/util/Optional"))).before args0 about1 = true := code_word (m := ⟨13, 0⟩) (meth := k13m0) (c := k13c0) (by decide +kernel) rfl rfl rfl (by decide +kernel)
set_option maxRecDepth 65536 in
theorem w_c20 : (Jvm.Cond.code ({ cls := "com/example/ensyn/ensyn/region/NetClass", name := "values", desc := "()[Lcom/example/ensyn/ensyn/region/NetClass;" } : Jvm.MethodName) prog_17_method_1_code (0 : Nat) (Option.some (Jvm.ClassFile.FieldType.array (Jvm.ClassFile.FieldType.object "com/example/ensyn/ensyn/region/NetClass")))).before args0 about1 = true := code_word (m := ⟨12, 0⟩) (meth := k12m0) (c := k12c0) (by decide +kernel) rfl rfl rfl (by decide +kernel)
set_option maxRecDepth 65536 in
theorem w_c21 : (Jvm.Cond.code ({ cls := "java/util/Optional", name := "of", desc := "(Ljava/lang/Object;)Ljava/util/Optional;" } : Jvm.MethodName) jdk_32_method_3_code (1 : Nat) (Option.some (Jvm.ClassFile.FieldType.object "java/util/Optional"))).before args0 about1 = true := code_word (m := ⟨13, 2⟩) (meth := k13m2) (c := k13c2) (by decide +kernel) rfl rfl rfl (by decide +kernel)
set_option maxRecDepth 65536 in
theorem w_c22 : (Jvm.Cond.code ({ cls := "java/util/Objects", name := "requireNonNull", desc := "(Ljava/lang/Object;)Ljava/lang/Object;" } : Jvm.MethodName) jdk_31_method_10_code (1 : Nat) (Option.some (Jvm.ClassFile.FieldType.object "java/lang/Object"))).before args0 about1 = true := code_word (m := ⟨15, 1⟩) (meth := k15m1) (c := k15c1) (by decide +kernel) rfl rfl rfl (by decide +kernel)
set_option maxRecDepth 65536 in
theorem w_c23 : (Jvm.Cond.code ({ cls := "java/util/Optional", name := "<init>", desc := "(Ljava/lang/Object;)V" } : Jvm.MethodName) jdk_32_method_2_code (2 : Nat) (Option.none : Option Jvm.ClassFile.FieldType)).before args0 about1 = true := code_word (m := ⟨13, 1⟩) (meth := k13m1) (c := k13c1) (by decide +kernel) rfl rfl rfl (by decide +kernel)
set_option maxRecDepth 65536 in
theorem w_c24 : (Jvm.Cond.code ({ cls := "java/util/Optional", name := "isPresent", desc := "()Z" } : Jvm.MethodName) jdk_32_method_6_code (1 : Nat) (Option.some Jvm.ClassFile.FieldType.boolean)).before args0 about1 = true := code_word (m := ⟨13, 4⟩) (meth := k13m4) (c := k13c4) (by decide +kernel) rfl rfl rfl (by decide +kernel)
set_option maxRecDepth 65536 in
theorem w_c25 : (Jvm.Cond.code ({ cls := "java/util/Optional", name := "get", desc := "()Ljava/lang/Object;" } : Jvm.MethodName) jdk_32_method_5_code (1 : Nat) (Option.some (Jvm.ClassFile.FieldType.object "java/lang/Object"))).before args0 about1 = true := code_word (m := ⟨13, 3⟩) (meth := k13m3) (c := k13c3) (by decide +kernel) rfl rfl rfl (by decide +kernel)
def codes1 : List Jvm.Cond := [Jvm.Cond.code x code maxLocals ret, Jvm.Cond.code ({ cls := "java/lang/String", name := "length", desc := "()I" } : Jvm.MethodName) jdk_42_method_54_code (1 : Nat) (Option.some Jvm.ClassFile.FieldType.int), Jvm.Cond.code ({ cls := "java/lang/String", name := "coder", desc := "()B" } : Jvm.MethodName) jdk_42_method_152_code (1 : Nat) (Option.some Jvm.ClassFile.FieldType.byte), Jvm.Cond.code ({ cls := "com/example/ensyn/ensyn/region/NetClassNamedPinLaw", name := "pick", desc := "(ILjava/lang/String;IJ)C" } : Jvm.MethodName) method_3_code (5 : Nat) (Option.some Jvm.ClassFile.FieldType.char), Jvm.Cond.code ({ cls := "java/lang/String", name := "charAt", desc := "(I)C" } : Jvm.MethodName) jdk_42_method_56_code (2 : Nat) (Option.some Jvm.ClassFile.FieldType.char), Jvm.Cond.code ({ cls := "java/lang/String", name := "isLatin1", desc := "()Z" } : Jvm.MethodName) jdk_42_method_154_code (1 : Nat) (Option.some Jvm.ClassFile.FieldType.boolean), Jvm.Cond.code ({ cls := "java/lang/StringLatin1", name := "charAt", desc := "([BI)C" } : Jvm.MethodName) jdk_43_method_2_code (2 : Nat) (Option.some Jvm.ClassFile.FieldType.char), Jvm.Cond.code ({ cls := "java/lang/String", name := "checkIndex", desc := "(II)V" } : Jvm.MethodName) jdk_42_method_155_code (2 : Nat) (Option.none : Option Jvm.ClassFile.FieldType), Jvm.Cond.code ({ cls := "jdk/internal/util/Preconditions", name := "checkIndex", desc := "(IILjava/util/function/BiFunction;)I" } : Jvm.MethodName) jdk_41_method_11_code (3 : Nat) (Option.some Jvm.ClassFile.FieldType.int), Jvm.Cond.code ({ cls := "com/example/ensyn/ensyn/region/NetClassNamedPinLaw", name := "make", desc := "(ICCCCCC)Ljava/lang/String;" } : Jvm.MethodName) method_4_code (7 : Nat) (Option.some (Jvm.ClassFile.FieldType.object "java/lang/String")), Jvm.Cond.code ({ cls := "java/lang/String", name := "<init>", desc := "([C)V" } : Jvm.MethodName) jdk_42_method_3_code (2 : Nat) (Option.none : Option Jvm.ClassFile.FieldType), Jvm.Cond.code ({ cls := "java/lang/String", name := "<init>", desc := "([CIILjava/lang/Void;)V" } : Jvm.MethodName) jdk_42_method_149_code (6 : Nat) (Option.none : Option Jvm.ClassFile.FieldType), Jvm.Cond.code ({ cls := "java/lang/Object", name := "<init>", desc := "()V" } : Jvm.MethodName) object_method_1_code (1 : Nat) (Option.none : Option Jvm.ClassFile.FieldType), Jvm.Cond.code ({ cls := "java/lang/StringUTF16", name := "compress", desc := "([CII)[B" } : Jvm.MethodName) jdk_52_method_16_code (6 : Nat) (Option.some (Jvm.ClassFile.FieldType.array Jvm.ClassFile.FieldType.byte)), Jvm.Cond.code ({ cls := "java/lang/StringUTF16", name := "compress", desc := "([CI[BII)I" } : Jvm.MethodName) jdk_52_method_21_code (7 : Nat) (Option.some Jvm.ClassFile.FieldType.int), Jvm.Cond.code ({ cls := "java/lang/StringUTF16", name := "coderFromArrayLen", desc := "([BI)B" } : Jvm.MethodName) jdk_52_method_15_code (2 : Nat) (Option.some Jvm.ClassFile.FieldType.byte), Jvm.Cond.code ({ cls := "java/lang/String", name := "equals", desc := "(Ljava/lang/Object;)Z" } : Jvm.MethodName) jdk_42_method_66_code (3 : Nat) (Option.some Jvm.ClassFile.FieldType.boolean), Jvm.Cond.code ({ cls := "java/lang/StringLatin1", name := "equals", desc := "([B[B)Z" } : Jvm.MethodName) jdk_43_method_13_code (3 : Nat) (Option.some Jvm.ClassFile.FieldType.boolean), Jvm.Cond.code ({ cls := "com/example/ensyn/ensyn/region/NetClass", name := "named", desc := "(Ljava/lang/String;)Ljava/util/Optional;" } : Jvm.MethodName) prog_17_method_4_code (6 : Nat) (Option.some (Jvm.ClassFile.FieldType.object "java/util/Optional")), Jvm.Cond.code ({ cls := "java/util/Optional", name := "empty", desc := "()Ljava/util/Optional;" } : Jvm.MethodName) jdk_32_method_1_code (1 : Nat) (Option.some (Jvm.ClassFile.FieldType.object "java/util/Optional")), Jvm.Cond.code ({ cls := "com/example/ensyn/ensyn/region/NetClass", name := "values", desc := "()[Lcom/example/ensyn/ensyn/region/NetClass;" } : Jvm.MethodName) prog_17_method_1_code (0 : Nat) (Option.some (Jvm.ClassFile.FieldType.array (Jvm.ClassFile.FieldType.object "com/example/ensyn/ensyn/region/NetClass"))), Jvm.Cond.code ({ cls := "java/util/Optional", name := "of", desc := "(Ljava/lang/Object;)Ljava/util/Optional;" } : Jvm.MethodName) jdk_32_method_3_code (1 : Nat) (Option.some (Jvm.ClassFile.FieldType.object "java/util/Optional")), Jvm.Cond.code ({ cls := "java/util/Objects", name := "requireNonNull", desc := "(Ljava/lang/Object;)Ljava/lang/Object;" } : Jvm.MethodName) jdk_31_method_10_code (1 : Nat) (Option.some (Jvm.ClassFile.FieldType.object "java/lang/Object")), Jvm.Cond.code ({ cls := "java/util/Optional", name := "<init>", desc := "(Ljava/lang/Object;)V" } : Jvm.MethodName) jdk_32_method_2_code (2 : Nat) (Option.none : Option Jvm.ClassFile.FieldType), Jvm.Cond.code ({ cls := "java/util/Optional", name := "isPresent", desc := "()Z" } : Jvm.MethodName) jdk_32_method_6_code (1 : Nat) (Option.some Jvm.ClassFile.FieldType.boolean), Jvm.Cond.code ({ cls := "java/util/Optional", name := "get", desc := "()Ljava/lang/Object;" } : Jvm.MethodName) jdk_32_method_5_code (1 : Nat) (Option.some (Jvm.ClassFile.FieldType.object "java/lang/Object"))]
set_option maxRecDepth 65536 in
theorem codes_eq : words1.filter isCode = codes1 := rfl
theorem w_codes : ∀ c ∈ words1.filter isCode, c.before args0 about1 = true := by
  rw [codes_eq]
  intro c hc
  simp only [codes1, List.mem_cons, List.not_mem_nil, or_false] at hc
  rcases hc with rfl | rfl | rfl | rfl | rfl | rfl | rfl | rfl | rfl | rfl | rfl | rfl | rfl | rfl | rfl | rfl | rfl | rfl | rfl | rfl | rfl | rfl | rfl | rfl | rfl | rfl
  · exact w_c0
  · exact w_c1
  · exact w_c2
  · exact w_c3
  · exact w_c4
  · exact w_c5
  · exact w_c6
  · exact w_c7
  · exact w_c8
  · exact w_c9
  · exact w_c10
  · exact w_c11
  · exact w_c12
  · exact w_c13
  · exact w_c14
  · exact w_c15
  · exact w_c16
  · exact w_c17
  · exact w_c18
  · exact w_c19
  · exact w_c20
  · exact w_c21
  · exact w_c22
  · exact w_c23
  · exact w_c24
  · exact w_c25
set_option maxRecDepth 65536 in
theorem w_t1 : (words1.take 24).all (fun c => isCode c || c.before args0 about1) = true := by decide +kernel
set_option maxRecDepth 65536 in
theorem w_t2 : ((words1.drop 24).take 24).all (fun c => isCode c || c.before args0 about1) = true := by decide +kernel
set_option maxRecDepth 65536 in
theorem w_t3 : (((words1.drop 24).drop 24).take 24).all (fun c => isCode c || c.before args0 about1) = true := by decide +kernel
set_option maxRecDepth 65536 in
theorem w_t4 : ((((words1.drop 24).drop 24).drop 24).take 24).all (fun c => isCode c || c.before args0 about1) = true := by decide +kernel
set_option maxRecDepth 65536 in
theorem w_t5 : (((((words1.drop 24).drop 24).drop 24).drop 24).take 24).all (fun c => isCode c || c.before args0 about1) = true := by decide +kernel
set_option maxRecDepth 65536 in
theorem w_t6 : ((((((words1.drop 24).drop 24).drop 24).drop 24).drop 24).take 24).all (fun c => isCode c || c.before args0 about1) = true := by decide +kernel
set_option maxRecDepth 65536 in
theorem w_t7 : ((((((words1.drop 24).drop 24).drop 24).drop 24).drop 24).drop 24).all (fun c => isCode c || c.before args0 about1) = true := by decide +kernel
theorem w_tables : (allAtoms (Jvm.Cond.code x code maxLocals ret :: tables_1)).before args0 about1 = true := by
  rw [allAtoms_all]
  show words1.all (fun c => c.before args0 about1) = true
  refine all_split ?_ w_codes
  rw [← List.take_append_drop 24 words1, List.all_append, w_t1, ← List.take_append_drop 24 (words1.drop 24), List.all_append, w_t2, ← List.take_append_drop 24 ((words1.drop 24).drop 24), List.all_append, w_t3, ← List.take_append_drop 24 (((words1.drop 24).drop 24).drop 24), List.all_append, w_t4, ← List.take_append_drop 24 ((((words1.drop 24).drop 24).drop 24).drop 24), List.all_append, w_t5, ← List.take_append_drop 24 (((((words1.drop 24).drop 24).drop 24).drop 24).drop 24), List.all_append, w_t6, w_t7]
  rfl
set_option maxRecDepth 65536 in
theorem w_rest : rest_1_c.before args0 about1 = true := by decide +kernel
set_option maxRecDepth 65536 in
theorem w_case : (Jvm.Cond.and given_1 narrow_1).before args0 about1 = true := by decide +kernel
set_option maxRecDepth 65536 in
theorem w_consts : constsHeld consts_1 about1 := Jvm.Lit.constsHeldB_iff.mp (by decide +kernel)
theorem w_applies : (headSpec (Jvm.Cond.code x code maxLocals ret :: tables_1) room_1).applies x e0.platform about1 = true :=
  (Spec.applies_iff w_frames).mpr ⟨w_running, w_runnable, w_alone, w_named, w_hears, w_ripe, w_room, w_tables⟩
theorem atStart : AtStart classFile x code maxLocals ret World_1 tables_1 room_1 Calls_1 rest_1 Pre_1 launch0 p0 e0 about1 theMethod args0 below0 :=
  ⟨lists_1, trivial, launch0.admits_env _ _ _, launch0.least_env, fairChoices_fair.cas, fairChoices_fair.clock, w_frames, w_args, w_heap, w_applies, ⟨w_consts, trivial⟩, w_rest, w_case⟩
end start1
theorem witness_1 : WitnessClaimed_1 := ⟨start1.p0, start1.e0, start1.about1, start1.theMethod, start1.args0, start1.below0, start1.atStart⟩
end Jvm.Pilot.@@N@@
