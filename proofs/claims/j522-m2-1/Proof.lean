import JvmDerived
import JvmDerived.Pilot.@@N@@Statement
import JvmDerived.Pilot.@@N@@Code
set_option linter.unusedVariables false
set_option linter.unusedSimpArgs false
namespace Jvm.RoadKit
open Sem ClassFile Op Lib Jvm.Stand Jvm.Free Jvm.LawKit
section New
variable {p : Program} {l : Launch} {e : Env} {R : Room} {s : State} {m : MethodId} {args : Array Value} {below : List Frame} {meth : Method} {c : Code} {T : State} {locs : List Loc} {cells slots : Nat}
theorem retI (X : Stand p l e R s m args below meth c T locs cells slots) (hx : p.tables.exec = Jvm.exec) {pc : Nat} {Ls : Array Slot} {z : Int32} {rest : List Value} (hret : meth.sig.returnType = some .int) (hd : decode c.code pc = .ok (.ireturn, 1)) {fs : List Frame}
    (hl : ∀ (f : JFrame) (acts : List Action), f.method = m → f.locked = none → f.entered = [] → (doReturn e (T.setTop f) acts (some (.int z))).1 = T.setFrames fs) : Steps p.tables e below (T.setTop (mkF m pc Ls (.int z :: rest))) (T.setFrames fs) := by
  have hm' : T.vm.method? m = some meth := X.method'
  have hn : narrow .int (.int z) = .int z := rfl
  show Steps p.tables e below (T.setTop { method := m, pc := pc, locals := Ls, stack := _ :: rest, locked := none }) _
  jvm_step X.here [X.here.top, hx, hd, hm', hret, hn]
  first | (intro acts; rw [hl _ acts rfl rfl rfl]) | rw [hl _ _ rfl rfl rfl]
  exact Steps.refl _
/-- from here the run comes to an end of which Po says something -/
def Gl (p : Program) (e : Env) (below : List Frame) (Po : State → Outcome → Prop) (T : State) (g : JFrame) : Prop := ∃ s₂ o, Steps p.tables e below (T.setTop g) s₂ ∧ s₂.status = .running ∧ Ended s₂ below o ∧ Po s₂ o
def Pos (C S : Nat) (Q : Option Value → Heap → List Loc → Prop) (s : State) (U : State) (o : Outcome) : Prop := ∃ v L, o = .returned v ∧ Q v U.heap L ∧ FrameEnd s o U L C S
theorem Gl.by {Po : State → Outcome → Prop} {T' : State} {g g' : JFrame} (st : ∀ t, Steps p.tables e below (T'.setTop g') t → Steps p.tables e below (T.setTop g) t) (h : Gl p e below Po T' g') : Gl p e below Po T g := by
  obtain ⟨a, o, k, r⟩ := h
  exact ⟨a, o, st _ k, r⟩
theorem Gl.cast {Po : State → Outcome → Prop} {g g' : JFrame} (q : g = g') (h : Gl p e below Po T g') : Gl p e below Po T g := q ▸ h
theorem Gl.outN (X : Stand p l e R s m args below meth c T locs cells slots) (hx : p.tables.exec = Jvm.exec) (hk : meth.locks = false) {pc : Nat} {Ls : Array Slot} {z : Int32} {t : FieldType} {rest : List Value} (hret : meth.sig.returnType = some t) (ht : t = .boolean ∨ t = .byte ∨ t = .char ∨ t = .short)
    (hd : decode c.code pc = .ok (.ireturn, 1)) {C S : Nat} {Q : Option Value → Heap → List Loc → Prop} (hQ : Q (some (.int (nar t z))) T.heap locs) (hc : cells ≤ C) (hs : slots ≤ S) : Gl p e below (Pos C S Q s) T (mkF m pc Ls (.int z :: rest)) := by
  obtain ⟨fs, hr, hrun, hended, hW, hsame⟩ := X.leave (v := some (.int (nar t z))) (fun h => by rw [hret] at h; cases h) hk
  exact ⟨_, _, retN X hx hret ht hd hr, hrun, hended, _, _, rfl, hQ, ⟨_, rfl⟩, hW, hsame.mono hc hs⟩
theorem Gl.outI (X : Stand p l e R s m args below meth c T locs cells slots) (hx : p.tables.exec = Jvm.exec) (hk : meth.locks = false) {pc : Nat} {Ls : Array Slot} {z : Int32} {rest : List Value} (hret : meth.sig.returnType = some .int)
    (hd : decode c.code pc = .ok (.ireturn, 1)) {C S : Nat} {Q : Option Value → Heap → List Loc → Prop} (hQ : Q (some (.int z)) T.heap locs) (hc : cells ≤ C) (hs : slots ≤ S) : Gl p e below (Pos C S Q s) T (mkF m pc Ls (.int z :: rest)) := by
  obtain ⟨fs, hr, hrun, hended, hW, hsame⟩ := X.leave (v := some (.int z)) (fun h => by rw [hret] at h; cases h) hk
  exact ⟨_, _, retI X hx hret hd hr, hrun, hended, _, _, rfl, hQ, ⟨_, rfl⟩, hW, hsame.mono hc hs⟩
theorem Gl.outJ (X : Stand p l e R s m args below meth c T locs cells slots) (hx : p.tables.exec = Jvm.exec) (hk : meth.locks = false) {pc : Nat} {Ls : Array Slot} {z : Int64} {rest : List Value} (hret : meth.sig.returnType = some .long)
    (hd : decode c.code pc = .ok (.lreturn, 1)) {C S : Nat} {Q : Option Value → Heap → List Loc → Prop} (hQ : Q (some (.long z)) T.heap locs) (hc : cells ≤ C) (hs : slots ≤ S) : Gl p e below (Pos C S Q s) T (mkF m pc Ls (.long z :: rest)) := by
  obtain ⟨fs, hr, hrun, hended, hW, hsame⟩ := X.leave (v := some (.long z)) (fun h => by rw [hret] at h; cases h) hk
  exact ⟨_, _, retOut X hx hret rfl (Or.inr (Or.inl ⟨rfl, rfl, _, rfl⟩)) hd hr, hrun, hended, _, _, rfl, hQ, ⟨_, rfl⟩, hW, hsame.mono hc hs⟩
theorem Gl.outA (X : Stand p l e R s m args below meth c T locs cells slots) (hx : p.tables.exec = Jvm.exec) (hk : meth.locks = false) {pc : Nat} {Ls : Array Slot} {w : Value} {t : FieldType} {rest : List Value} (hret : meth.sig.returnType = some t) (ht : t.isReference = true) (hw : w.isRef = true)
    (hd : decode c.code pc = .ok (.areturn, 1)) {C S : Nat} {Q : Option Value → Heap → List Loc → Prop} (hQ : Q (some w) T.heap locs) (hc : cells ≤ C) (hs : slots ≤ S) : Gl p e below (Pos C S Q s) T (mkF m pc Ls (w :: rest)) := by
  obtain ⟨fs, hr, hrun, hended, hW, hsame⟩ := X.leave (v := some w) (fun h => by rw [hret] at h; cases h) hk
  exact ⟨_, _, retOut X hx hret (by rcases ref_cases hw with rfl | ⟨a, rfl⟩ <;> cases t <;> first | rfl | (cases ht; done)) (Or.inr (Or.inr (Or.inr (Or.inr ⟨rfl, ht, hw⟩)))) hd hr, hrun, hended, _, _, rfl, hQ, ⟨_, rfl⟩, hW, hsame.mono hc hs⟩
theorem Gl.outV (X : Stand p l e R s m args below meth c T locs cells slots) (hx : p.tables.exec = Jvm.exec) (hk : meth.locks = false) {pc : Nat} {Ls : Array Slot} (hret : meth.sig.returnType = none)
    (hd : decode c.code pc = .ok (.return_, 1)) {C S : Nat} {Q : Option Value → Heap → List Loc → Prop} (hQ : Q none T.heap locs) (hc : cells ≤ C) (hs : slots ≤ S) : Gl p e below (Pos C S Q s) T (mkF m pc Ls []) := by
  obtain ⟨fs, hr, hrun, hended, hW, hsame⟩ := X.leave (v := none) (fun _ => rfl) hk
  exact ⟨_, _, X.returnOut hx hret hd hr, hrun, hended, _, _, rfl, hQ, ⟨_, rfl⟩, hW, hsame.mono hc hs⟩
theorem eqI_v {args : Array Value} {first s : State} {o : Option Outcome} {idx : List Nat} {t : Term} {k : Int32} (h : (Cond.eq t (.int k)).value args first o s idx = some true) : t.eval args first o idx s = some (.int k) := by
  simp only [Cond.value, Term.eval] at h
  cases ht : t.eval args first o idx s with
  | none => simp [ht] at h
  | some x => cases x <;> simp [ht] at h ⊢; exact h
end New
end Jvm.RoadKit
namespace Jvm.Pilot.@@N@@
open Jvm Jvm.ClassFile Sem Op Lib Jvm.Free Jvm.Stand Jvm.LawKit Jvm.RoadKit Bundle Jvm.Pilot.@@N@@.Jvm.D
def Wd (Z : State) (w_ENUM w_INTEGER w_FLOAT w_BOOLEAN : Addr) : Prop := Sta Z Z.heap "com/example/evo_layout/evolayout/genome/Gene$Kind" "ENUM" "Lcom/example/evo_layout/evolayout/genome/Gene$Kind;" (.ref w_ENUM) ∧ Exa Z Z.heap w_ENUM "com/example/evo_layout/evolayout/genome/Gene$Kind" ∧ Sta Z Z.heap "com/example/evo_layout/evolayout/genome/Gene$Kind" "INTEGER" "Lcom/example/evo_layout/evolayout/genome/Gene$Kind;" (.ref w_INTEGER) ∧ Exa Z Z.heap w_INTEGER "com/example/evo_layout/evolayout/genome/Gene$Kind" ∧ Sta Z Z.heap "com/example/evo_layout/evolayout/genome/Gene$Kind" "FLOAT" "Lcom/example/evo_layout/evolayout/genome/Gene$Kind;" (.ref w_FLOAT) ∧ Exa Z Z.heap w_FLOAT "com/example/evo_layout/evolayout/genome/Gene$Kind" ∧ Sta Z Z.heap "com/example/evo_layout/evolayout/genome/Gene$Kind" "BOOLEAN" "Lcom/example/evo_layout/evolayout/genome/Gene$Kind;" (.ref w_BOOLEAN) ∧ Exa Z Z.heap w_BOOLEAN "com/example/evo_layout/evolayout/genome/Gene$Kind" ∧ Fld Z Z.heap w_ENUM "java/lang/Enum" "ordinal" "I" (.int (0 : Int32)) ∧ Fld Z Z.heap w_INTEGER "java/lang/Enum" "ordinal" "I" (.int (2 : Int32)) ∧ Fld Z Z.heap w_FLOAT "java/lang/Enum" "ordinal" "I" (.int (3 : Int32)) ∧ Fld Z Z.heap w_BOOLEAN "java/lang/Enum" "ordinal" "I" (.int (1 : Int32))
theorem d2_0 : decode prog_16_method_5_code 0 = .ok (.aload_n 0, 1) := by decide +kernel
theorem d2_1 : decode prog_16_method_5_code 1 = .ok (.getstatic 10, 3) := by decide +kernel
theorem d2_4 : decode prog_16_method_5_code 4 = .ok (.if_acmp .eq 10, 3) := by decide +kernel
theorem d2_7 : decode prog_16_method_5_code 7 = .ok (.aload_n 0, 1) := by decide +kernel
theorem d2_8 : decode prog_16_method_5_code 8 = .ok (.getstatic 13, 3) := by decide +kernel
theorem d2_11 : decode prog_16_method_5_code 11 = .ok (.if_acmp .ne 7, 3) := by decide +kernel
theorem d2_14 : decode prog_16_method_5_code 14 = .ok (.iconst 1, 1) := by decide +kernel
theorem d2_15 : decode prog_16_method_5_code 15 = .ok (.goto 4, 3) := by decide +kernel
theorem d2_18 : decode prog_16_method_5_code 18 = .ok (.iconst 0, 1) := by decide +kernel
theorem d2_19 : decode prog_16_method_5_code 19 = .ok (.ireturn, 1) := by decide +kernel
theorem pn0 : plainName "com/example/evo_layout/evolayout/genome/Gene$Kind" = true := by first | (simp [plainName, overriddenIn]; done) | decide +kernel
theorem ef2 (m : MethodId) (x0 : Addr) : entryFrame m #[(.ref x0)] 1 = mkF m 0 #[.val (.ref x0)] [] := by first | (simp [entryFrame, mkF, argsToLocals, Value.category]; done) | rfl
def fn2 (a0 : Addr) (w_ENUM w_INTEGER w_FLOAT w_BOOLEAN : Addr) : Int32 := if a0 = w_INTEGER then (1 : Int32) else if a0 = w_FLOAT then (1 : Int32) else (0 : Int32)
def Q2 (a0 : Addr) (w_ENUM w_INTEGER w_FLOAT w_BOOLEAN : Addr) (h0 : Heap) (n0 : Nat) (v : Option Value) (h : Heap) (L : List Loc) : Prop := v = some (.int (fn2 a0 w_ENUM w_INTEGER w_FLOAT w_BOOLEAN)) ∧ Fr n0 L ∧ h = h0
set_option maxRecDepth 65536 in
set_option maxHeartbeats 40000000 in
theorem rm2 (l : Launch) (Z : State) (a0 : Array Value) (hw : ∀ d ∈ tables_1, d.before a0 Z = true) (ws : List Jvm.Cond) (a0 : Addr) (w_ENUM w_INTEGER w_FLOAT w_BOOLEAN : Addr) (h0 : Heap) (n0 : Nat) (O : Old Z n0 h0) (W : Wd Z w_ENUM w_INTEGER w_FLOAT w_BOOLEAN) :
    MetFree l (⟨"com/example/evo_layout/evolayout/genome/Gene$Kind", "isNumber", "()Z"⟩ : MethodName) (head1 (Jvm.Cond.code (⟨"com/example/evo_layout/evolayout/genome/Gene$Kind", "isNumber", "()Z"⟩ : MethodName) prog_16_method_5_code 1 (some .boolean) :: ws) ({ frames := 0, cells := 0, slots := 0, locals := 0 } : Room)) (fun a U => a = #[(.ref a0)] ∧ Z.Warmed39 U.vm ∧ U.heap = h0) (fun _ _ _ _ _ => True) (fun _ U o U' => ∃ v L, o = .returned v ∧ Q2 a0 w_ENUM w_INTEGER w_FLOAT w_BOOLEAN h0 n0 v U'.heap L ∧ FrameEnd U o U' L ({ frames := 0, cells := 0, slots := 0, locals := 0 } : Room).cells ({ frames := 0, cells := 0, slots := 0, locals := 0 } : Room).slots) := by
  refine MetFree.of_bodySF (plainFor_of_name pn0) hisR ?_
  intro p e s m args below meth c s₁ Bd hml0 hP hK
  obtain ⟨rfl, hZ, hh⟩ := hP
  have hx := Bd.exec
  have hby := Bd.bytes
  have hml : c.maxLocals = 1 := hml0
  have hown : s.vm.findClass "com/example/evo_layout/evolayout/genome/Gene$Kind" = some m.cls := findClass_of_methodNamed Bd.named
  have hnm := (name_of_methodNamed Bd.named Bd.method).1
  have hk := Bd.notSynchronized
  have X0 : Stand p l e ({ frames := 0, cells := 0, slots := 0, locals := 0 } : Room) s m #[(.ref a0)] below meth c s₁ [] 0 0 := Stand.of_body Bd
  have e0 : s₁.heap = h0 := by rw [← hh, Bd.state]; rfl
  have N0 := Fr.nil n0
  show Gl p e below (Pos 0 0 (Q2 a0 w_ENUM w_INTEGER w_FLOAT w_BOOLEAN h0 n0) s) s₁ _
  refine Gl.cast (ef2 m a0) ?_
  refine Gl.by (g' := (mkF m 1 #[.val (.ref a0)] [(.ref a0)])) (fun _ k => XS.aloadN X0.here hx rfl (hb hby d2_0) rfl rfl k) ?_
  obtain ⟨T1, X1, e1, st1⟩ := getS2 X0 hx hZ hown (host := "") (Or.inl (hw _ (List.mem_of_getElem? (i := 12) rfl))) Via.refl e0 (Sta.ext O.2 W.2.2.1) (g := (mkF m 1 #[.val (.ref a0)] [(.ref a0)])) rfl (hb hby d2_1)
  refine Gl.by (g' := (mkF m 4 #[.val (.ref a0)] [(.ref w_INTEGER), (.ref a0)])) st1 ?_
  by_cases hc2 : a0 = w_INTEGER
  · refine Gl.by (g' := (mkF m 14 #[.val (.ref a0)] [])) (fun _ k => Jvm.RoadKit.acmp (g := (mkF m 4 #[.val (.ref a0)] [(.ref w_INTEGER), (.ref a0)])) X1 hx rfl rfl rfl (pc0 := 4) (pc' := 14) (same := true) rfl (hb hby d2_4) rfl (decide_eq_true (congrArg Value.ref hc2)) (by decide) (by decide) k) ?_
    refine Gl.by (g' := (mkF m 15 #[.val (.ref a0)] [(.int (1 : Int32))])) (fun _ k => XS.iconst X1.here hx rfl (hb hby d2_14) k) ?_
    refine Gl.by (g' := (mkF m 19 #[.val (.ref a0)] [(.int (1 : Int32))])) (fun _ k => XS.goto X1.here hx rfl (pc0 := 15) (pc' := 19) rfl (hb hby d2_15) (by decide) (by decide) k) ?_
    exact Gl.outN X1 hx hk (t := .boolean) Bd.returns (by simp) (hb hby d2_19) ⟨(congrArg (fun z => some (Value.int z)) (show nar .boolean (1 : Int32) = fn2 a0 w_ENUM w_INTEGER w_FLOAT w_BOOLEAN by unfold fn2; rw [if_pos hc2]; try rfl)), N0, e1⟩ (by decide) (by decide)
  · refine Gl.by (g' := (mkF m 7 #[.val (.ref a0)] [])) (fun _ k => Jvm.RoadKit.acmp (g := (mkF m 4 #[.val (.ref a0)] [(.ref w_INTEGER), (.ref a0)])) X1 hx rfl rfl rfl (pc0 := 4) (pc' := 7) (same := false) rfl (hb hby d2_4) rfl (decide_eq_false fun q => hc2 (Value.ref.inj q)) (by decide) (by decide) k) ?_
    refine Gl.by (g' := (mkF m 8 #[.val (.ref a0)] [(.ref a0)])) (fun _ k => XS.aloadN X1.here hx rfl (hb hby d2_7) rfl rfl k) ?_
    obtain ⟨T3, X3, e3, st3⟩ := getS2 X1 hx hZ hown (host := "") (Or.inl (hw _ (List.mem_of_getElem? (i := 14) rfl))) Via.refl e1 (Sta.ext O.2 W.2.2.2.2.1) (g := (mkF m 8 #[.val (.ref a0)] [(.ref a0)])) rfl (hb hby d2_8)
    refine Gl.by (g' := (mkF m 11 #[.val (.ref a0)] [(.ref w_FLOAT), (.ref a0)])) st3 ?_
    by_cases hc4 : a0 = w_FLOAT
    · refine Gl.by (g' := (mkF m 14 #[.val (.ref a0)] [])) (fun _ k => Jvm.RoadKit.acmp (g := (mkF m 11 #[.val (.ref a0)] [(.ref w_FLOAT), (.ref a0)])) X3 hx rfl rfl rfl (pc0 := 11) (pc' := 14) (same := true) rfl (hb hby d2_11) rfl (decide_eq_true (congrArg Value.ref hc4)) (by decide) (by decide) k) ?_
      refine Gl.by (g' := (mkF m 15 #[.val (.ref a0)] [(.int (1 : Int32))])) (fun _ k => XS.iconst X3.here hx rfl (hb hby d2_14) k) ?_
      refine Gl.by (g' := (mkF m 19 #[.val (.ref a0)] [(.int (1 : Int32))])) (fun _ k => XS.goto X3.here hx rfl (pc0 := 15) (pc' := 19) rfl (hb hby d2_15) (by decide) (by decide) k) ?_
      exact Gl.outN X3 hx hk (t := .boolean) Bd.returns (by simp) (hb hby d2_19) ⟨(congrArg (fun z => some (Value.int z)) (show nar .boolean (1 : Int32) = fn2 a0 w_ENUM w_INTEGER w_FLOAT w_BOOLEAN by unfold fn2; rw [if_neg hc2, if_pos hc4]; try rfl)), N0, e3⟩ (by decide) (by decide)
    · refine Gl.by (g' := (mkF m 18 #[.val (.ref a0)] [])) (fun _ k => Jvm.RoadKit.acmp (g := (mkF m 11 #[.val (.ref a0)] [(.ref w_FLOAT), (.ref a0)])) X3 hx rfl rfl rfl (pc0 := 11) (pc' := 18) (same := false) rfl (hb hby d2_11) rfl (decide_eq_false fun q => hc4 (Value.ref.inj q)) (by decide) (by decide) k) ?_
      refine Gl.by (g' := (mkF m 19 #[.val (.ref a0)] [(.int (0 : Int32))])) (fun _ k => XS.iconst X3.here hx rfl (hb hby d2_18) k) ?_
      exact Gl.outN X3 hx hk (t := .boolean) Bd.returns (by simp) (hb hby d2_19) ⟨(congrArg (fun z => some (Value.int z)) (show nar .boolean (0 : Int32) = fn2 a0 w_ENUM w_INTEGER w_FLOAT w_BOOLEAN by unfold fn2; rw [if_neg hc2, if_neg hc4]; try rfl)), N0, e3⟩ (by decide) (by decide)
theorem d1_0 : decode method_2_code 0 = .ok (.iload_n 0, 1) := by decide +kernel
theorem d1_1 : decode method_2_code 1 = .ok (.ifCond .ne 10, 3) := by decide +kernel
theorem d1_4 : decode method_2_code 4 = .ok (.getstatic 7, 3) := by decide +kernel
theorem d1_7 : decode method_2_code 7 = .ok (.astore_n 1, 1) := by decide +kernel
theorem d1_8 : decode method_2_code 8 = .ok (.goto 31, 3) := by decide +kernel
theorem d1_11 : decode method_2_code 11 = .ok (.iload_n 0, 1) := by decide +kernel
theorem d1_12 : decode method_2_code 12 = .ok (.iconst 1, 1) := by decide +kernel
theorem d1_13 : decode method_2_code 13 = .ok (.if_icmp .ne 10, 3) := by decide +kernel
theorem d1_16 : decode method_2_code 16 = .ok (.getstatic 13, 3) := by decide +kernel
theorem d1_19 : decode method_2_code 19 = .ok (.astore_n 1, 1) := by decide +kernel
theorem d1_20 : decode method_2_code 20 = .ok (.goto 19, 3) := by decide +kernel
theorem d1_23 : decode method_2_code 23 = .ok (.iload_n 0, 1) := by decide +kernel
theorem d1_24 : decode method_2_code 24 = .ok (.iconst 2, 1) := by decide +kernel
theorem d1_25 : decode method_2_code 25 = .ok (.if_icmp .ne 10, 3) := by decide +kernel
theorem d1_28 : decode method_2_code 28 = .ok (.getstatic 16, 3) := by decide +kernel
theorem d1_31 : decode method_2_code 31 = .ok (.astore_n 1, 1) := by decide +kernel
theorem d1_32 : decode method_2_code 32 = .ok (.goto 7, 3) := by decide +kernel
theorem d1_35 : decode method_2_code 35 = .ok (.getstatic 19, 3) := by decide +kernel
theorem d1_38 : decode method_2_code 38 = .ok (.astore_n 1, 1) := by decide +kernel
theorem d1_39 : decode method_2_code 39 = .ok (.aload_n 1, 1) := by decide +kernel
theorem d1_40 : decode method_2_code 40 = .ok (.areturn, 1) := by decide +kernel
theorem pn1 : plainName "com/example/evo_layout/evolayout/genome/KindIsNumberPinLaw" = true := by first | (simp [plainName, overriddenIn]; done) | decide +kernel
theorem ef1 (m : MethodId) (x0 : Int32) : entryFrame m #[(.int x0)] 2 = mkF m 0 #[.val (.int x0), .unset] [] := by first | (simp [entryFrame, mkF, argsToLocals, Value.category]; done) | rfl
def fn1 (p0 : Int32) (w_ENUM w_INTEGER w_FLOAT w_BOOLEAN : Addr) : Addr := if p0 = (0 : Int32) then w_ENUM else if p0 = (1 : Int32) then w_BOOLEAN else if p0 = (2 : Int32) then w_INTEGER else w_FLOAT
def Q1 (p0 : Int32) (w_ENUM w_INTEGER w_FLOAT w_BOOLEAN : Addr) (h0 : Heap) (n0 : Nat) (v : Option Value) (h : Heap) (L : List Loc) : Prop := v = some (.ref (fn1 p0 w_ENUM w_INTEGER w_FLOAT w_BOOLEAN)) ∧ Fr n0 L ∧ h = h0
set_option maxRecDepth 65536 in
set_option maxHeartbeats 40000000 in
theorem rm1 (l : Launch) (Z : State) (a0 : Array Value) (hw : ∀ d ∈ tables_1, d.before a0 Z = true) (ws : List Jvm.Cond) (p0 : Int32) (w_ENUM w_INTEGER w_FLOAT w_BOOLEAN : Addr) (h0 : Heap) (n0 : Nat) (O : Old Z n0 h0) (W : Wd Z w_ENUM w_INTEGER w_FLOAT w_BOOLEAN) :
    MetFree l (⟨"com/example/evo_layout/evolayout/genome/KindIsNumberPinLaw", "pick", "(I)Lcom/example/evo_layout/evolayout/genome/Gene$Kind;"⟩ : MethodName) (head1 (Jvm.Cond.code (⟨"com/example/evo_layout/evolayout/genome/KindIsNumberPinLaw", "pick", "(I)Lcom/example/evo_layout/evolayout/genome/Gene$Kind;"⟩ : MethodName) method_2_code 2 (some (.object "com/example/evo_layout/evolayout/genome/Gene$Kind")) :: ws) ({ frames := 0, cells := 0, slots := 0, locals := 0 } : Room)) (fun a U => a = #[(.int p0)] ∧ Z.Warmed39 U.vm ∧ U.heap = h0) (fun _ _ _ _ _ => True) (fun _ U o U' => ∃ v L, o = .returned v ∧ Q1 p0 w_ENUM w_INTEGER w_FLOAT w_BOOLEAN h0 n0 v U'.heap L ∧ FrameEnd U o U' L ({ frames := 0, cells := 0, slots := 0, locals := 0 } : Room).cells ({ frames := 0, cells := 0, slots := 0, locals := 0 } : Room).slots) := by
  refine MetFree.of_bodySF (plainFor_of_name pn1) hisR ?_
  intro p e s m args below meth c s₁ Bd hml0 hP hK
  obtain ⟨rfl, hZ, hh⟩ := hP
  have hx := Bd.exec
  have hby := Bd.bytes
  have hml : c.maxLocals = 2 := hml0
  have hown : s.vm.findClass "com/example/evo_layout/evolayout/genome/KindIsNumberPinLaw" = some m.cls := findClass_of_methodNamed Bd.named
  have hnm := (name_of_methodNamed Bd.named Bd.method).1
  have hk := Bd.notSynchronized
  have X0 : Stand p l e ({ frames := 0, cells := 0, slots := 0, locals := 0 } : Room) s m #[(.int p0)] below meth c s₁ [] 0 0 := Stand.of_body Bd
  have e0 : s₁.heap = h0 := by rw [← hh, Bd.state]; rfl
  have N0 := Fr.nil n0
  show Gl p e below (Pos 0 0 (Q1 p0 w_ENUM w_INTEGER w_FLOAT w_BOOLEAN h0 n0) s) s₁ _
  refine Gl.cast (ef1 m p0) ?_
  refine Gl.by (g' := (mkF m 1 #[.val (.int p0), .unset] [(.int p0)])) (fun _ k => XS.iloadN X0.here hx rfl (hb hby d1_0) rfl k) ?_
  by_cases hc1 : p0 = (0 : Int32)
  · refine Gl.by (g' := (mkF m 4 #[.val (.int p0), .unset] [])) (fun _ k => XS.ifNo X0.here hx rfl (hb hby d1_1) rfl ((if0 _ _).trans (teq hc1).2) k) ?_
    obtain ⟨T2, X2, e2, st2⟩ := getS2 X0 hx hZ hown (host := "") (Or.inl (hw _ (List.mem_of_getElem? (i := 4) rfl))) Via.refl e0 (Sta.ext O.2 W.1) (g := (mkF m 4 #[.val (.int p0), .unset] [])) rfl (hb hby d1_4)
    refine Gl.by (g' := (mkF m 7 #[.val (.int p0), .unset] [(.ref w_ENUM)])) st2 ?_
    refine Gl.by (g' := (mkF m 8 #[.val (.int p0), .val (.ref w_ENUM)] [])) (fun _ k => XS.astoreN X2.here hx rfl (hb hby d1_7) rfl rfl (l' := #[.val (.int p0), .val (.ref w_ENUM)]) rfl k) ?_
    refine Gl.by (g' := (mkF m 39 #[.val (.int p0), .val (.ref w_ENUM)] [])) (fun _ k => XS.goto X2.here hx rfl (pc0 := 8) (pc' := 39) rfl (hb hby d1_8) (by decide) (by decide) k) ?_
    refine Gl.by (g' := (mkF m 40 #[.val (.int p0), .val (.ref w_ENUM)] [(.ref w_ENUM)])) (fun _ k => XS.aloadN X2.here hx rfl (hb hby d1_39) rfl rfl k) ?_
    exact Gl.outA X2 hx hk Bd.returns rfl rfl (hb hby d1_40) ⟨(congrArg (fun z => some (Value.ref z)) (show w_ENUM = fn1 p0 w_ENUM w_INTEGER w_FLOAT w_BOOLEAN by unfold fn1; rw [if_pos hc1]; try rfl)), N0, e2⟩ (by decide) (by decide)
  · refine Gl.by (g' := (mkF m 11 #[.val (.int p0), .unset] [])) (fun _ k => XS.ifYes X0.here hx rfl (pc0 := 1) (pc' := 11) rfl (hb hby d1_1) rfl ((if0 _ _).trans (feq hc1).2) (by decide) (by decide) k) ?_
    refine Gl.by (g' := (mkF m 12 #[.val (.int p0), .unset] [(.int p0)])) (fun _ k => XS.iloadN X0.here hx rfl (hb hby d1_11) rfl k) ?_
    refine Gl.by (g' := (mkF m 13 #[.val (.int p0), .unset] [(.int (1 : Int32)), (.int p0)])) (fun _ k => XS.iconst X0.here hx rfl (hb hby d1_12) k) ?_
    by_cases hc3 : p0 = (1 : Int32)
    · refine Gl.by (g' := (mkF m 16 #[.val (.int p0), .unset] [])) (fun _ k => XS.icmpNo X0.here hx rfl (hb hby d1_13) rfl (teq hc3).2 k) ?_
      obtain ⟨T4, X4, e4, st4⟩ := getS2 X0 hx hZ hown (host := "") (Or.inl (hw _ (List.mem_of_getElem? (i := 18) rfl))) Via.refl e0 (Sta.ext O.2 W.2.2.2.2.2.2.1) (g := (mkF m 16 #[.val (.int p0), .unset] [])) rfl (hb hby d1_16)
      refine Gl.by (g' := (mkF m 19 #[.val (.int p0), .unset] [(.ref w_BOOLEAN)])) st4 ?_
      refine Gl.by (g' := (mkF m 20 #[.val (.int p0), .val (.ref w_BOOLEAN)] [])) (fun _ k => XS.astoreN X4.here hx rfl (hb hby d1_19) rfl rfl (l' := #[.val (.int p0), .val (.ref w_BOOLEAN)]) rfl k) ?_
      refine Gl.by (g' := (mkF m 39 #[.val (.int p0), .val (.ref w_BOOLEAN)] [])) (fun _ k => XS.goto X4.here hx rfl (pc0 := 20) (pc' := 39) rfl (hb hby d1_20) (by decide) (by decide) k) ?_
      refine Gl.by (g' := (mkF m 40 #[.val (.int p0), .val (.ref w_BOOLEAN)] [(.ref w_BOOLEAN)])) (fun _ k => XS.aloadN X4.here hx rfl (hb hby d1_39) rfl rfl k) ?_
      exact Gl.outA X4 hx hk Bd.returns rfl rfl (hb hby d1_40) ⟨(congrArg (fun z => some (Value.ref z)) (show w_BOOLEAN = fn1 p0 w_ENUM w_INTEGER w_FLOAT w_BOOLEAN by unfold fn1; rw [if_neg hc1, if_pos hc3]; try rfl)), N0, e4⟩ (by decide) (by decide)
    · refine Gl.by (g' := (mkF m 23 #[.val (.int p0), .unset] [])) (fun _ k => XS.icmpYes X0.here hx rfl (pc0 := 13) (pc' := 23) rfl (hb hby d1_13) rfl (feq hc3).2 (by decide) (by decide) k) ?_
      refine Gl.by (g' := (mkF m 24 #[.val (.int p0), .unset] [(.int p0)])) (fun _ k => XS.iloadN X0.here hx rfl (hb hby d1_23) rfl k) ?_
      refine Gl.by (g' := (mkF m 25 #[.val (.int p0), .unset] [(.int (2 : Int32)), (.int p0)])) (fun _ k => XS.iconst X0.here hx rfl (hb hby d1_24) k) ?_
      by_cases hc5 : p0 = (2 : Int32)
      · refine Gl.by (g' := (mkF m 28 #[.val (.int p0), .unset] [])) (fun _ k => XS.icmpNo X0.here hx rfl (hb hby d1_25) rfl (teq hc5).2 k) ?_
        obtain ⟨T6, X6, e6, st6⟩ := getS2 X0 hx hZ hown (host := "") (Or.inl (hw _ (List.mem_of_getElem? (i := 17) rfl))) Via.refl e0 (Sta.ext O.2 W.2.2.1) (g := (mkF m 28 #[.val (.int p0), .unset] [])) rfl (hb hby d1_28)
        refine Gl.by (g' := (mkF m 31 #[.val (.int p0), .unset] [(.ref w_INTEGER)])) st6 ?_
        refine Gl.by (g' := (mkF m 32 #[.val (.int p0), .val (.ref w_INTEGER)] [])) (fun _ k => XS.astoreN X6.here hx rfl (hb hby d1_31) rfl rfl (l' := #[.val (.int p0), .val (.ref w_INTEGER)]) rfl k) ?_
        refine Gl.by (g' := (mkF m 39 #[.val (.int p0), .val (.ref w_INTEGER)] [])) (fun _ k => XS.goto X6.here hx rfl (pc0 := 32) (pc' := 39) rfl (hb hby d1_32) (by decide) (by decide) k) ?_
        refine Gl.by (g' := (mkF m 40 #[.val (.int p0), .val (.ref w_INTEGER)] [(.ref w_INTEGER)])) (fun _ k => XS.aloadN X6.here hx rfl (hb hby d1_39) rfl rfl k) ?_
        exact Gl.outA X6 hx hk Bd.returns rfl rfl (hb hby d1_40) ⟨(congrArg (fun z => some (Value.ref z)) (show w_INTEGER = fn1 p0 w_ENUM w_INTEGER w_FLOAT w_BOOLEAN by unfold fn1; rw [if_neg hc1, if_neg hc3, if_pos hc5]; try rfl)), N0, e6⟩ (by decide) (by decide)
      · refine Gl.by (g' := (mkF m 35 #[.val (.int p0), .unset] [])) (fun _ k => XS.icmpYes X0.here hx rfl (pc0 := 25) (pc' := 35) rfl (hb hby d1_25) rfl (feq hc5).2 (by decide) (by decide) k) ?_
        obtain ⟨T7, X7, e7, st7⟩ := getS2 X0 hx hZ hown (host := "") (Or.inl (hw _ (List.mem_of_getElem? (i := 16) rfl))) Via.refl e0 (Sta.ext O.2 W.2.2.2.2.1) (g := (mkF m 35 #[.val (.int p0), .unset] [])) rfl (hb hby d1_35)
        refine Gl.by (g' := (mkF m 38 #[.val (.int p0), .unset] [(.ref w_FLOAT)])) st7 ?_
        refine Gl.by (g' := (mkF m 39 #[.val (.int p0), .val (.ref w_FLOAT)] [])) (fun _ k => XS.astoreN X7.here hx rfl (hb hby d1_38) rfl rfl (l' := #[.val (.int p0), .val (.ref w_FLOAT)]) rfl k) ?_
        refine Gl.by (g' := (mkF m 40 #[.val (.int p0), .val (.ref w_FLOAT)] [(.ref w_FLOAT)])) (fun _ k => XS.aloadN X7.here hx rfl (hb hby d1_39) rfl rfl k) ?_
        exact Gl.outA X7 hx hk Bd.returns rfl rfl (hb hby d1_40) ⟨(congrArg (fun z => some (Value.ref z)) (show w_FLOAT = fn1 p0 w_ENUM w_INTEGER w_FLOAT w_BOOLEAN by unfold fn1; rw [if_neg hc1, if_neg hc3, if_neg hc5]; try rfl)), N0, e7⟩ (by decide) (by decide)
theorem fn1_exa (Z : State) (p0 : Int32) (w_ENUM w_INTEGER w_FLOAT w_BOOLEAN : Addr) (W : Wd Z w_ENUM w_INTEGER w_FLOAT w_BOOLEAN) : Exa Z Z.heap (fn1 p0 w_ENUM w_INTEGER w_FLOAT w_BOOLEAN) "com/example/evo_layout/evolayout/genome/Gene$Kind" := by
  unfold fn1
  repeat' split
  all_goals first | exact W.2.1 | exact W.2.2.2.1 | exact W.2.2.2.2.2.1 | exact W.2.2.2.2.2.2.2.1
theorem pd0 : parseMethodDescriptor "(I)Lcom/example/evo_layout/evolayout/genome/Gene$Kind;" = some ⟨[.int], some (.object "com/example/evo_layout/evolayout/genome/Gene$Kind")⟩ := by decide +kernel
theorem pd1 : parseMethodDescriptor "()Z" = some ⟨[], some .boolean⟩ := by decide +kernel
theorem ef0 (m : MethodId) (x0 : Int32) : entryFrame m #[(.int x0)] maxLocals = mkF m 0 #[.val (.int x0), .unset, .unset, .unset] [] := by first | (simp [entryFrame, mkF, argsToLocals, Value.category, maxLocals]; done) | rfl
def fn0 (p0 : Int32) (w_ENUM w_INTEGER w_FLOAT w_BOOLEAN : Addr) : Int32 := if (p0 &&& (3 : Int32)) = (0 : Int32) then if (fn2 (fn1 (p0 &&& (3 : Int32)) w_ENUM w_INTEGER w_FLOAT w_BOOLEAN) w_ENUM w_INTEGER w_FLOAT w_BOOLEAN) = (0 : Int32) then (1 : Int32) else (0 : Int32) else if (p0 &&& (3 : Int32)) = (1 : Int32) then if (fn2 (fn1 (p0 &&& (3 : Int32)) w_ENUM w_INTEGER w_FLOAT w_BOOLEAN) w_ENUM w_INTEGER w_FLOAT w_BOOLEAN) = (0 : Int32) then (1 : Int32) else (0 : Int32) else if (p0 &&& (3 : Int32)) = (2 : Int32) then if (fn2 (fn1 (p0 &&& (3 : Int32)) w_ENUM w_INTEGER w_FLOAT w_BOOLEAN) w_ENUM w_INTEGER w_FLOAT w_BOOLEAN) = (1 : Int32) then (1 : Int32) else (0 : Int32) else if (fn2 (fn1 (p0 &&& (3 : Int32)) w_ENUM w_INTEGER w_FLOAT w_BOOLEAN) w_ENUM w_INTEGER w_FLOAT w_BOOLEAN) = (1 : Int32) then (1 : Int32) else (0 : Int32)
def Q0 (p0 : Int32) (w_ENUM w_INTEGER w_FLOAT w_BOOLEAN : Addr) (h0 : Heap) (n0 : Nat) (v : Option Value) (h : Heap) (L : List Loc) : Prop := v = some (.int (fn0 p0 w_ENUM w_INTEGER w_FLOAT w_BOOLEAN)) ∧ Fr n0 L ∧ h = h0
set_option maxRecDepth 65536 in
set_option maxHeartbeats 40000000 in
theorem rm0 (l : Launch) (Z : State) (a0 : Array Value) (hw : ∀ d ∈ tables_1, d.before a0 Z = true) (ws : List Jvm.Cond) (p0 : Int32) (w_ENUM w_INTEGER w_FLOAT w_BOOLEAN : Addr) (h0 : Heap) (n0 : Nat) (O : Old Z n0 h0) (W : Wd Z w_ENUM w_INTEGER w_FLOAT w_BOOLEAN) :
    MetFree l x (head1 (Jvm.Cond.code x code maxLocals ret :: ws) room_1) (fun a U => a = #[(.int p0)] ∧ Z.Warmed39 U.vm ∧ U.heap = h0) (fun _ _ _ _ _ => True) (fun _ U o U' => ∃ v L, o = .returned v ∧ Q0 p0 w_ENUM w_INTEGER w_FLOAT w_BOOLEAN h0 n0 v U'.heap L ∧ FrameEnd U o U' L 0 0) := by
  refine MetFree.of_bodySF (plainFor_of_name pn1) hisR ?_
  intro p e s m args below meth c s₁ Bd hml0 hP hK
  obtain ⟨rfl, hZ, hh⟩ := hP
  have hx := Bd.exec
  have hby := Bd.bytes
  have hml : c.maxLocals = 4 := hml0
  have hown : s.vm.findClass "com/example/evo_layout/evolayout/genome/KindIsNumberPinLaw" = some m.cls := findClass_of_methodNamed Bd.named
  have hnm := (name_of_methodNamed Bd.named Bd.method).1
  have hk := Bd.notSynchronized
  have X0 : Stand p l e room_1 s m #[(.int p0)] below meth c s₁ [] 0 0 := Stand.of_body Bd
  have e0 : s₁.heap = h0 := by rw [← hh, Bd.state]; rfl
  have N0 := Fr.nil n0
  show Gl p e below (Pos 0 0 (Q0 p0 w_ENUM w_INTEGER w_FLOAT w_BOOLEAN h0 n0) s) s₁ _
  refine Gl.cast (ef0 m p0) ?_
  refine Gl.by (g' := (mkF m 1 #[.val (.int p0), .unset, .unset, .unset] [(.int p0)])) (fun _ k => XS.iloadN X0.here hx rfl (hb hby at_0) rfl k) ?_
  refine Gl.by (g' := (mkF m 2 #[.val (.int p0), .unset, .unset, .unset] [(.int (3 : Int32)), (.int p0)])) (fun _ k => XS.iconst X0.here hx rfl (hb hby at_1) k) ?_
  refine Gl.by (g' := (mkF m 3 #[.val (.int p0), .unset, .unset, .unset] [(.int (p0 &&& (3 : Int32)))])) (fun _ k => XS.iand X0.here hx rfl (hb hby at_2) rfl k) ?_
  refine Gl.by (g' := (mkF m 4 #[.val (.int p0), .val (.int (p0 &&& (3 : Int32))), .unset, .unset] [])) (fun _ k => XS.istoreN X0.here hx rfl (hb hby at_3) rfl (l' := #[.val (.int p0), .val (.int (p0 &&& (3 : Int32))), .unset, .unset]) rfl k) ?_
  refine Gl.by (g' := (mkF m 5 #[.val (.int p0), .val (.int (p0 &&& (3 : Int32))), .unset, .unset] [(.int (p0 &&& (3 : Int32)))])) (fun _ k => XS.iloadN X0.here hx rfl (hb hby at_4) rfl k) ?_
  obtain ⟨_, _, ⟨T1, L1, k1, n1⟩, -, X1, ⟨Lc1, hQ1, l1, y1, z1⟩, st1⟩ := Jvm.LawKit.callS X0 hx (y := (⟨"com/example/evo_layout/evolayout/genome/KindIsNumberPinLaw", "pick", "(I)Lcom/example/evo_layout/evolayout/genome/Gene$Kind;"⟩ : MethodName)) hown (mvT hZ (hw _ (List.mem_of_getElem? (i := 0) rfl))) (mvT hZ (hw _ (List.mem_of_getElem? (i := 1) rfl))) (mvT hZ (hw _ (List.mem_of_getElem? (i := 2) rfl))) (mvT hZ (hw _ (List.mem_of_getElem? (i := 3) rfl))) (by decide) (backOf (W := 0) (rm1 l Z a0 hw [] (p0 &&& (3 : Int32)) w_ENUM w_INTEGER w_FLOAT w_BOOLEAN h0 n0 O W) hZ (hw _ (List.mem_of_getElem? (i := 3) rfl)) (hw _ (List.mem_of_getElem? (i := 2) rfl)) (by decide) (by decide)) (g := (mkF m 5 #[.val (.int p0), .val (.int (p0 &&& (3 : Int32))), .unset, .unset] [(.int (p0 &&& (3 : Int32)))])) rfl (by rw [hml]; rfl) (argsL := [(.int (p0 &&& (3 : Int32)))]) (rest := []) (lenOf pd0 rfl) rfl (by show 2 * 0 + _ ≤ _; exact Nat.le_of_eq rfl) (hb hby at_5) (fun _ _ => ⟨rfl, e0, (by decide : 0 + 0 ≤ _), (by decide : 0 + 0 ≤ _)⟩)
  dsimp only [Pt.U, Pt.locs, Pt.cells, Pt.slots] at X1 l1 y1 z1 st1 hQ1
  subst l1 y1 z1
  obtain ⟨rfl, N1q, e1⟩ := hQ1
  have N1 := Fr.app N0 N1q
  refine Gl.by (g' := (mkF m 8 #[.val (.int p0), .val (.int (p0 &&& (3 : Int32))), .unset, .unset] [(.ref (fn1 (p0 &&& (3 : Int32)) w_ENUM w_INTEGER w_FLOAT w_BOOLEAN))])) st1 ?_
  refine Gl.by (g' := (mkF m 9 #[.val (.int p0), .val (.int (p0 &&& (3 : Int32))), .val (.ref (fn1 (p0 &&& (3 : Int32)) w_ENUM w_INTEGER w_FLOAT w_BOOLEAN)), .unset] [])) (fun _ k => XS.astoreN X1.here hx rfl (hb hby at_8) rfl rfl (l' := #[.val (.int p0), .val (.int (p0 &&& (3 : Int32))), .val (.ref (fn1 (p0 &&& (3 : Int32)) w_ENUM w_INTEGER w_FLOAT w_BOOLEAN)), .unset]) rfl k) ?_
  refine Gl.by (g' := (mkF m 10 #[.val (.int p0), .val (.int (p0 &&& (3 : Int32))), .val (.ref (fn1 (p0 &&& (3 : Int32)) w_ENUM w_INTEGER w_FLOAT w_BOOLEAN)), .unset] [(.int (p0 &&& (3 : Int32)))])) (fun _ k => XS.iloadN X1.here hx rfl (hb hby at_9) rfl k) ?_
  by_cases hc2 : (p0 &&& (3 : Int32)) = (0 : Int32)
  · refine Gl.by (g' := (mkF m 13 #[.val (.int p0), .val (.int (p0 &&& (3 : Int32))), .val (.ref (fn1 (p0 &&& (3 : Int32)) w_ENUM w_INTEGER w_FLOAT w_BOOLEAN)), .unset] [])) (fun _ k => XS.ifNo X1.here hx rfl (hb hby at_10) rfl ((if0 _ _).trans (teq hc2).2) k) ?_
    refine Gl.by (g' := (mkF m 14 #[.val (.int p0), .val (.int (p0 &&& (3 : Int32))), .val (.ref (fn1 (p0 &&& (3 : Int32)) w_ENUM w_INTEGER w_FLOAT w_BOOLEAN)), .unset] [(.int (0 : Int32))])) (fun _ k => XS.iconst X1.here hx rfl (hb hby at_13) k) ?_
    refine Gl.by (g' := (mkF m 15 #[.val (.int p0), .val (.int (p0 &&& (3 : Int32))), .val (.ref (fn1 (p0 &&& (3 : Int32)) w_ENUM w_INTEGER w_FLOAT w_BOOLEAN)), .val (.int (0 : Int32))] [])) (fun _ k => XS.istoreN X1.here hx rfl (hb hby at_14) rfl (l' := #[.val (.int p0), .val (.int (p0 &&& (3 : Int32))), .val (.ref (fn1 (p0 &&& (3 : Int32)) w_ENUM w_INTEGER w_FLOAT w_BOOLEAN)), .val (.int (0 : Int32))]) rfl k) ?_
    refine Gl.by (g' := (mkF m 40 #[.val (.int p0), .val (.int (p0 &&& (3 : Int32))), .val (.ref (fn1 (p0 &&& (3 : Int32)) w_ENUM w_INTEGER w_FLOAT w_BOOLEAN)), .val (.int (0 : Int32))] [])) (fun _ k => XS.goto X1.here hx rfl (pc0 := 15) (pc' := 40) rfl (hb hby at_15) (by decide) (by decide) k) ?_
    refine Gl.by (g' := (mkF m 41 #[.val (.int p0), .val (.int (p0 &&& (3 : Int32))), .val (.ref (fn1 (p0 &&& (3 : Int32)) w_ENUM w_INTEGER w_FLOAT w_BOOLEAN)), .val (.int (0 : Int32))] [(.ref (fn1 (p0 &&& (3 : Int32)) w_ENUM w_INTEGER w_FLOAT w_BOOLEAN))])) (fun _ k => XS.aloadN X1.here hx rfl (hb hby at_40) rfl rfl k) ?_
    obtain ⟨cq3, kq3, q3a, q3b, q3c⟩ := isOf hZ e1 (Exa.ext O.2 (fn1_exa Z (p0 &&& (3 : Int32)) w_ENUM w_INTEGER w_FLOAT w_BOOLEAN W))
    obtain ⟨_, _, ⟨T3, L3, k3, n3⟩, -, X3, ⟨Lc3, hQ3, l3, y3, z3⟩, st3⟩ := X1.virtualBack hx (y := (⟨"com/example/evo_layout/evolayout/genome/Gene$Kind", "isNumber", "()Z"⟩ : MethodName)) (z := (⟨"com/example/evo_layout/evolayout/genome/Gene$Kind", "isNumber", "()Z"⟩ : MethodName)) hown (mvT hZ (hw _ (List.mem_of_getElem? (i := 7) rfl))) (mvT hZ (hw _ (List.mem_of_getElem? (i := 8) rfl))) (notFace_of_selects (args := #[]) (mvT hZ (hw _ (List.mem_of_getElem? (i := 10) rfl)))) (mvT hZ (hw _ (List.mem_of_getElem? (i := 10) rfl))) (mvT hZ (hw _ (List.mem_of_getElem? (i := 9) rfl))) (by decide) (backOf (W := 0) (rm2 l Z a0 hw [] (fn1 (p0 &&& (3 : Int32)) w_ENUM w_INTEGER w_FLOAT w_BOOLEAN) w_ENUM w_INTEGER w_FLOAT w_BOOLEAN h0 n0 O W) hZ (hw _ (List.mem_of_getElem? (i := 11) rfl)) (hw _ (List.mem_of_getElem? (i := 5) rfl)) (by decide) (by decide)) q3a q3c (g := (mkF m 41 #[.val (.int p0), .val (.int (p0 &&& (3 : Int32))), .val (.ref (fn1 (p0 &&& (3 : Int32)) w_ENUM w_INTEGER w_FLOAT w_BOOLEAN)), .val (.int (0 : Int32))] [(.ref (fn1 (p0 &&& (3 : Int32)) w_ENUM w_INTEGER w_FLOAT w_BOOLEAN))])) rfl (by rw [hml]; rfl) (Steps.refl _) (argsL := []) (rest := []) (lenOf pd1 rfl) rfl (by show 2 * 0 + _ ≤ _; exact Nat.le_of_eq rfl) (hb hby at_41) (fun _ _ => ⟨rfl, e1, (by decide : 0 + 0 ≤ _), (by decide : 0 + 0 ≤ _)⟩)
    dsimp only [Pt.U, Pt.locs, Pt.cells, Pt.slots] at X3 l3 y3 z3 st3 hQ3
    subst l3 y3 z3
    obtain ⟨rfl, N3q, e3⟩ := hQ3
    have N3 := Fr.app N1 N3q
    refine Gl.by (g' := (mkF m 44 #[.val (.int p0), .val (.int (p0 &&& (3 : Int32))), .val (.ref (fn1 (p0 &&& (3 : Int32)) w_ENUM w_INTEGER w_FLOAT w_BOOLEAN)), .val (.int (0 : Int32))] [(.int (fn2 (fn1 (p0 &&& (3 : Int32)) w_ENUM w_INTEGER w_FLOAT w_BOOLEAN) w_ENUM w_INTEGER w_FLOAT w_BOOLEAN))])) (fun _ k => st3.trans k) ?_
    refine Gl.by (g' := (mkF m 45 #[.val (.int p0), .val (.int (p0 &&& (3 : Int32))), .val (.ref (fn1 (p0 &&& (3 : Int32)) w_ENUM w_INTEGER w_FLOAT w_BOOLEAN)), .val (.int (0 : Int32))] [(.int (0 : Int32)), (.int (fn2 (fn1 (p0 &&& (3 : Int32)) w_ENUM w_INTEGER w_FLOAT w_BOOLEAN) w_ENUM w_INTEGER w_FLOAT w_BOOLEAN))])) (fun _ k => XS.iloadN X3.here hx rfl (hb hby at_44) rfl k) ?_
    by_cases hc4 : (fn2 (fn1 (p0 &&& (3 : Int32)) w_ENUM w_INTEGER w_FLOAT w_BOOLEAN) w_ENUM w_INTEGER w_FLOAT w_BOOLEAN) = (0 : Int32)
    · refine Gl.by (g' := (mkF m 48 #[.val (.int p0), .val (.int (p0 &&& (3 : Int32))), .val (.ref (fn1 (p0 &&& (3 : Int32)) w_ENUM w_INTEGER w_FLOAT w_BOOLEAN)), .val (.int (0 : Int32))] [])) (fun _ k => XS.icmpNo X3.here hx rfl (hb hby at_45) rfl (teq hc4).2 k) ?_
      refine Gl.by (g' := (mkF m 49 #[.val (.int p0), .val (.int (p0 &&& (3 : Int32))), .val (.ref (fn1 (p0 &&& (3 : Int32)) w_ENUM w_INTEGER w_FLOAT w_BOOLEAN)), .val (.int (0 : Int32))] [(.int (1 : Int32))])) (fun _ k => XS.iconst X3.here hx rfl (hb hby at_48) k) ?_
      refine Gl.by (g' := (mkF m 53 #[.val (.int p0), .val (.int (p0 &&& (3 : Int32))), .val (.ref (fn1 (p0 &&& (3 : Int32)) w_ENUM w_INTEGER w_FLOAT w_BOOLEAN)), .val (.int (0 : Int32))] [(.int (1 : Int32))])) (fun _ k => XS.goto X3.here hx rfl (pc0 := 49) (pc' := 53) rfl (hb hby at_49) (by decide) (by decide) k) ?_
      exact Gl.outN X3 hx hk (t := .boolean) Bd.returns (by simp) (hb hby at_53) ⟨(congrArg (fun z => some (Value.int z)) (show nar .boolean (1 : Int32) = fn0 p0 w_ENUM w_INTEGER w_FLOAT w_BOOLEAN by unfold fn0; rw [if_pos hc2, if_pos hc4]; try rfl)), N3, e3⟩ (by decide) (by decide)
    · refine Gl.by (g' := (mkF m 52 #[.val (.int p0), .val (.int (p0 &&& (3 : Int32))), .val (.ref (fn1 (p0 &&& (3 : Int32)) w_ENUM w_INTEGER w_FLOAT w_BOOLEAN)), .val (.int (0 : Int32))] [])) (fun _ k => XS.icmpYes X3.here hx rfl (pc0 := 45) (pc' := 52) rfl (hb hby at_45) rfl (feq hc4).2 (by decide) (by decide) k) ?_
      refine Gl.by (g' := (mkF m 53 #[.val (.int p0), .val (.int (p0 &&& (3 : Int32))), .val (.ref (fn1 (p0 &&& (3 : Int32)) w_ENUM w_INTEGER w_FLOAT w_BOOLEAN)), .val (.int (0 : Int32))] [(.int (0 : Int32))])) (fun _ k => XS.iconst X3.here hx rfl (hb hby at_52) k) ?_
      exact Gl.outN X3 hx hk (t := .boolean) Bd.returns (by simp) (hb hby at_53) ⟨(congrArg (fun z => some (Value.int z)) (show nar .boolean (0 : Int32) = fn0 p0 w_ENUM w_INTEGER w_FLOAT w_BOOLEAN by unfold fn0; rw [if_pos hc2, if_neg hc4]; try rfl)), N3, e3⟩ (by decide) (by decide)
  · refine Gl.by (g' := (mkF m 18 #[.val (.int p0), .val (.int (p0 &&& (3 : Int32))), .val (.ref (fn1 (p0 &&& (3 : Int32)) w_ENUM w_INTEGER w_FLOAT w_BOOLEAN)), .unset] [])) (fun _ k => XS.ifYes X1.here hx rfl (pc0 := 10) (pc' := 18) rfl (hb hby at_10) rfl ((if0 _ _).trans (feq hc2).2) (by decide) (by decide) k) ?_
    refine Gl.by (g' := (mkF m 19 #[.val (.int p0), .val (.int (p0 &&& (3 : Int32))), .val (.ref (fn1 (p0 &&& (3 : Int32)) w_ENUM w_INTEGER w_FLOAT w_BOOLEAN)), .unset] [(.int (p0 &&& (3 : Int32)))])) (fun _ k => XS.iloadN X1.here hx rfl (hb hby at_18) rfl k) ?_
    refine Gl.by (g' := (mkF m 20 #[.val (.int p0), .val (.int (p0 &&& (3 : Int32))), .val (.ref (fn1 (p0 &&& (3 : Int32)) w_ENUM w_INTEGER w_FLOAT w_BOOLEAN)), .unset] [(.int (1 : Int32)), (.int (p0 &&& (3 : Int32)))])) (fun _ k => XS.iconst X1.here hx rfl (hb hby at_19) k) ?_
    by_cases hc5 : (p0 &&& (3 : Int32)) = (1 : Int32)
    · refine Gl.by (g' := (mkF m 23 #[.val (.int p0), .val (.int (p0 &&& (3 : Int32))), .val (.ref (fn1 (p0 &&& (3 : Int32)) w_ENUM w_INTEGER w_FLOAT w_BOOLEAN)), .unset] [])) (fun _ k => XS.icmpNo X1.here hx rfl (hb hby at_20) rfl (teq hc5).2 k) ?_
      refine Gl.by (g' := (mkF m 24 #[.val (.int p0), .val (.int (p0 &&& (3 : Int32))), .val (.ref (fn1 (p0 &&& (3 : Int32)) w_ENUM w_INTEGER w_FLOAT w_BOOLEAN)), .unset] [(.int (0 : Int32))])) (fun _ k => XS.iconst X1.here hx rfl (hb hby at_23) k) ?_
      refine Gl.by (g' := (mkF m 25 #[.val (.int p0), .val (.int (p0 &&& (3 : Int32))), .val (.ref (fn1 (p0 &&& (3 : Int32)) w_ENUM w_INTEGER w_FLOAT w_BOOLEAN)), .val (.int (0 : Int32))] [])) (fun _ k => XS.istoreN X1.here hx rfl (hb hby at_24) rfl (l' := #[.val (.int p0), .val (.int (p0 &&& (3 : Int32))), .val (.ref (fn1 (p0 &&& (3 : Int32)) w_ENUM w_INTEGER w_FLOAT w_BOOLEAN)), .val (.int (0 : Int32))]) rfl k) ?_
      refine Gl.by (g' := (mkF m 40 #[.val (.int p0), .val (.int (p0 &&& (3 : Int32))), .val (.ref (fn1 (p0 &&& (3 : Int32)) w_ENUM w_INTEGER w_FLOAT w_BOOLEAN)), .val (.int (0 : Int32))] [])) (fun _ k => XS.goto X1.here hx rfl (pc0 := 25) (pc' := 40) rfl (hb hby at_25) (by decide) (by decide) k) ?_
      refine Gl.by (g' := (mkF m 41 #[.val (.int p0), .val (.int (p0 &&& (3 : Int32))), .val (.ref (fn1 (p0 &&& (3 : Int32)) w_ENUM w_INTEGER w_FLOAT w_BOOLEAN)), .val (.int (0 : Int32))] [(.ref (fn1 (p0 &&& (3 : Int32)) w_ENUM w_INTEGER w_FLOAT w_BOOLEAN))])) (fun _ k => XS.aloadN X1.here hx rfl (hb hby at_40) rfl rfl k) ?_
      obtain ⟨cq6, kq6, q6a, q6b, q6c⟩ := isOf hZ e1 (Exa.ext O.2 (fn1_exa Z (p0 &&& (3 : Int32)) w_ENUM w_INTEGER w_FLOAT w_BOOLEAN W))
      obtain ⟨_, _, ⟨T6, L6, k6, n6⟩, -, X6, ⟨Lc6, hQ6, l6, y6, z6⟩, st6⟩ := X1.virtualBack hx (y := (⟨"com/example/evo_layout/evolayout/genome/Gene$Kind", "isNumber", "()Z"⟩ : MethodName)) (z := (⟨"com/example/evo_layout/evolayout/genome/Gene$Kind", "isNumber", "()Z"⟩ : MethodName)) hown (mvT hZ (hw _ (List.mem_of_getElem? (i := 7) rfl))) (mvT hZ (hw _ (List.mem_of_getElem? (i := 8) rfl))) (notFace_of_selects (args := #[]) (mvT hZ (hw _ (List.mem_of_getElem? (i := 10) rfl)))) (mvT hZ (hw _ (List.mem_of_getElem? (i := 10) rfl))) (mvT hZ (hw _ (List.mem_of_getElem? (i := 9) rfl))) (by decide) (backOf (W := 0) (rm2 l Z a0 hw [] (fn1 (p0 &&& (3 : Int32)) w_ENUM w_INTEGER w_FLOAT w_BOOLEAN) w_ENUM w_INTEGER w_FLOAT w_BOOLEAN h0 n0 O W) hZ (hw _ (List.mem_of_getElem? (i := 11) rfl)) (hw _ (List.mem_of_getElem? (i := 5) rfl)) (by decide) (by decide)) q6a q6c (g := (mkF m 41 #[.val (.int p0), .val (.int (p0 &&& (3 : Int32))), .val (.ref (fn1 (p0 &&& (3 : Int32)) w_ENUM w_INTEGER w_FLOAT w_BOOLEAN)), .val (.int (0 : Int32))] [(.ref (fn1 (p0 &&& (3 : Int32)) w_ENUM w_INTEGER w_FLOAT w_BOOLEAN))])) rfl (by rw [hml]; rfl) (Steps.refl _) (argsL := []) (rest := []) (lenOf pd1 rfl) rfl (by show 2 * 0 + _ ≤ _; exact Nat.le_of_eq rfl) (hb hby at_41) (fun _ _ => ⟨rfl, e1, (by decide : 0 + 0 ≤ _), (by decide : 0 + 0 ≤ _)⟩)
      dsimp only [Pt.U, Pt.locs, Pt.cells, Pt.slots] at X6 l6 y6 z6 st6 hQ6
      subst l6 y6 z6
      obtain ⟨rfl, N6q, e6⟩ := hQ6
      have N6 := Fr.app N1 N6q
      refine Gl.by (g' := (mkF m 44 #[.val (.int p0), .val (.int (p0 &&& (3 : Int32))), .val (.ref (fn1 (p0 &&& (3 : Int32)) w_ENUM w_INTEGER w_FLOAT w_BOOLEAN)), .val (.int (0 : Int32))] [(.int (fn2 (fn1 (p0 &&& (3 : Int32)) w_ENUM w_INTEGER w_FLOAT w_BOOLEAN) w_ENUM w_INTEGER w_FLOAT w_BOOLEAN))])) (fun _ k => st6.trans k) ?_
      refine Gl.by (g' := (mkF m 45 #[.val (.int p0), .val (.int (p0 &&& (3 : Int32))), .val (.ref (fn1 (p0 &&& (3 : Int32)) w_ENUM w_INTEGER w_FLOAT w_BOOLEAN)), .val (.int (0 : Int32))] [(.int (0 : Int32)), (.int (fn2 (fn1 (p0 &&& (3 : Int32)) w_ENUM w_INTEGER w_FLOAT w_BOOLEAN) w_ENUM w_INTEGER w_FLOAT w_BOOLEAN))])) (fun _ k => XS.iloadN X6.here hx rfl (hb hby at_44) rfl k) ?_
      by_cases hc7 : (fn2 (fn1 (p0 &&& (3 : Int32)) w_ENUM w_INTEGER w_FLOAT w_BOOLEAN) w_ENUM w_INTEGER w_FLOAT w_BOOLEAN) = (0 : Int32)
      · refine Gl.by (g' := (mkF m 48 #[.val (.int p0), .val (.int (p0 &&& (3 : Int32))), .val (.ref (fn1 (p0 &&& (3 : Int32)) w_ENUM w_INTEGER w_FLOAT w_BOOLEAN)), .val (.int (0 : Int32))] [])) (fun _ k => XS.icmpNo X6.here hx rfl (hb hby at_45) rfl (teq hc7).2 k) ?_
        refine Gl.by (g' := (mkF m 49 #[.val (.int p0), .val (.int (p0 &&& (3 : Int32))), .val (.ref (fn1 (p0 &&& (3 : Int32)) w_ENUM w_INTEGER w_FLOAT w_BOOLEAN)), .val (.int (0 : Int32))] [(.int (1 : Int32))])) (fun _ k => XS.iconst X6.here hx rfl (hb hby at_48) k) ?_
        refine Gl.by (g' := (mkF m 53 #[.val (.int p0), .val (.int (p0 &&& (3 : Int32))), .val (.ref (fn1 (p0 &&& (3 : Int32)) w_ENUM w_INTEGER w_FLOAT w_BOOLEAN)), .val (.int (0 : Int32))] [(.int (1 : Int32))])) (fun _ k => XS.goto X6.here hx rfl (pc0 := 49) (pc' := 53) rfl (hb hby at_49) (by decide) (by decide) k) ?_
        exact Gl.outN X6 hx hk (t := .boolean) Bd.returns (by simp) (hb hby at_53) ⟨(congrArg (fun z => some (Value.int z)) (show nar .boolean (1 : Int32) = fn0 p0 w_ENUM w_INTEGER w_FLOAT w_BOOLEAN by unfold fn0; rw [if_neg hc2, if_pos hc5, if_pos hc7]; try rfl)), N6, e6⟩ (by decide) (by decide)
      · refine Gl.by (g' := (mkF m 52 #[.val (.int p0), .val (.int (p0 &&& (3 : Int32))), .val (.ref (fn1 (p0 &&& (3 : Int32)) w_ENUM w_INTEGER w_FLOAT w_BOOLEAN)), .val (.int (0 : Int32))] [])) (fun _ k => XS.icmpYes X6.here hx rfl (pc0 := 45) (pc' := 52) rfl (hb hby at_45) rfl (feq hc7).2 (by decide) (by decide) k) ?_
        refine Gl.by (g' := (mkF m 53 #[.val (.int p0), .val (.int (p0 &&& (3 : Int32))), .val (.ref (fn1 (p0 &&& (3 : Int32)) w_ENUM w_INTEGER w_FLOAT w_BOOLEAN)), .val (.int (0 : Int32))] [(.int (0 : Int32))])) (fun _ k => XS.iconst X6.here hx rfl (hb hby at_52) k) ?_
        exact Gl.outN X6 hx hk (t := .boolean) Bd.returns (by simp) (hb hby at_53) ⟨(congrArg (fun z => some (Value.int z)) (show nar .boolean (0 : Int32) = fn0 p0 w_ENUM w_INTEGER w_FLOAT w_BOOLEAN by unfold fn0; rw [if_neg hc2, if_pos hc5, if_neg hc7]; try rfl)), N6, e6⟩ (by decide) (by decide)
    · refine Gl.by (g' := (mkF m 28 #[.val (.int p0), .val (.int (p0 &&& (3 : Int32))), .val (.ref (fn1 (p0 &&& (3 : Int32)) w_ENUM w_INTEGER w_FLOAT w_BOOLEAN)), .unset] [])) (fun _ k => XS.icmpYes X1.here hx rfl (pc0 := 20) (pc' := 28) rfl (hb hby at_20) rfl (feq hc5).2 (by decide) (by decide) k) ?_
      refine Gl.by (g' := (mkF m 29 #[.val (.int p0), .val (.int (p0 &&& (3 : Int32))), .val (.ref (fn1 (p0 &&& (3 : Int32)) w_ENUM w_INTEGER w_FLOAT w_BOOLEAN)), .unset] [(.int (p0 &&& (3 : Int32)))])) (fun _ k => XS.iloadN X1.here hx rfl (hb hby at_28) rfl k) ?_
      refine Gl.by (g' := (mkF m 30 #[.val (.int p0), .val (.int (p0 &&& (3 : Int32))), .val (.ref (fn1 (p0 &&& (3 : Int32)) w_ENUM w_INTEGER w_FLOAT w_BOOLEAN)), .unset] [(.int (2 : Int32)), (.int (p0 &&& (3 : Int32)))])) (fun _ k => XS.iconst X1.here hx rfl (hb hby at_29) k) ?_
      by_cases hc8 : (p0 &&& (3 : Int32)) = (2 : Int32)
      · refine Gl.by (g' := (mkF m 33 #[.val (.int p0), .val (.int (p0 &&& (3 : Int32))), .val (.ref (fn1 (p0 &&& (3 : Int32)) w_ENUM w_INTEGER w_FLOAT w_BOOLEAN)), .unset] [])) (fun _ k => XS.icmpNo X1.here hx rfl (hb hby at_30) rfl (teq hc8).2 k) ?_
        refine Gl.by (g' := (mkF m 34 #[.val (.int p0), .val (.int (p0 &&& (3 : Int32))), .val (.ref (fn1 (p0 &&& (3 : Int32)) w_ENUM w_INTEGER w_FLOAT w_BOOLEAN)), .unset] [(.int (1 : Int32))])) (fun _ k => XS.iconst X1.here hx rfl (hb hby at_33) k) ?_
        refine Gl.by (g' := (mkF m 35 #[.val (.int p0), .val (.int (p0 &&& (3 : Int32))), .val (.ref (fn1 (p0 &&& (3 : Int32)) w_ENUM w_INTEGER w_FLOAT w_BOOLEAN)), .val (.int (1 : Int32))] [])) (fun _ k => XS.istoreN X1.here hx rfl (hb hby at_34) rfl (l' := #[.val (.int p0), .val (.int (p0 &&& (3 : Int32))), .val (.ref (fn1 (p0 &&& (3 : Int32)) w_ENUM w_INTEGER w_FLOAT w_BOOLEAN)), .val (.int (1 : Int32))]) rfl k) ?_
        refine Gl.by (g' := (mkF m 40 #[.val (.int p0), .val (.int (p0 &&& (3 : Int32))), .val (.ref (fn1 (p0 &&& (3 : Int32)) w_ENUM w_INTEGER w_FLOAT w_BOOLEAN)), .val (.int (1 : Int32))] [])) (fun _ k => XS.goto X1.here hx rfl (pc0 := 35) (pc' := 40) rfl (hb hby at_35) (by decide) (by decide) k) ?_
        refine Gl.by (g' := (mkF m 41 #[.val (.int p0), .val (.int (p0 &&& (3 : Int32))), .val (.ref (fn1 (p0 &&& (3 : Int32)) w_ENUM w_INTEGER w_FLOAT w_BOOLEAN)), .val (.int (1 : Int32))] [(.ref (fn1 (p0 &&& (3 : Int32)) w_ENUM w_INTEGER w_FLOAT w_BOOLEAN))])) (fun _ k => XS.aloadN X1.here hx rfl (hb hby at_40) rfl rfl k) ?_
        obtain ⟨cq9, kq9, q9a, q9b, q9c⟩ := isOf hZ e1 (Exa.ext O.2 (fn1_exa Z (p0 &&& (3 : Int32)) w_ENUM w_INTEGER w_FLOAT w_BOOLEAN W))
        obtain ⟨_, _, ⟨T9, L9, k9, n9⟩, -, X9, ⟨Lc9, hQ9, l9, y9, z9⟩, st9⟩ := X1.virtualBack hx (y := (⟨"com/example/evo_layout/evolayout/genome/Gene$Kind", "isNumber", "()Z"⟩ : MethodName)) (z := (⟨"com/example/evo_layout/evolayout/genome/Gene$Kind", "isNumber", "()Z"⟩ : MethodName)) hown (mvT hZ (hw _ (List.mem_of_getElem? (i := 7) rfl))) (mvT hZ (hw _ (List.mem_of_getElem? (i := 8) rfl))) (notFace_of_selects (args := #[]) (mvT hZ (hw _ (List.mem_of_getElem? (i := 10) rfl)))) (mvT hZ (hw _ (List.mem_of_getElem? (i := 10) rfl))) (mvT hZ (hw _ (List.mem_of_getElem? (i := 9) rfl))) (by decide) (backOf (W := 0) (rm2 l Z a0 hw [] (fn1 (p0 &&& (3 : Int32)) w_ENUM w_INTEGER w_FLOAT w_BOOLEAN) w_ENUM w_INTEGER w_FLOAT w_BOOLEAN h0 n0 O W) hZ (hw _ (List.mem_of_getElem? (i := 11) rfl)) (hw _ (List.mem_of_getElem? (i := 5) rfl)) (by decide) (by decide)) q9a q9c (g := (mkF m 41 #[.val (.int p0), .val (.int (p0 &&& (3 : Int32))), .val (.ref (fn1 (p0 &&& (3 : Int32)) w_ENUM w_INTEGER w_FLOAT w_BOOLEAN)), .val (.int (1 : Int32))] [(.ref (fn1 (p0 &&& (3 : Int32)) w_ENUM w_INTEGER w_FLOAT w_BOOLEAN))])) rfl (by rw [hml]; rfl) (Steps.refl _) (argsL := []) (rest := []) (lenOf pd1 rfl) rfl (by show 2 * 0 + _ ≤ _; exact Nat.le_of_eq rfl) (hb hby at_41) (fun _ _ => ⟨rfl, e1, (by decide : 0 + 0 ≤ _), (by decide : 0 + 0 ≤ _)⟩)
        dsimp only [Pt.U, Pt.locs, Pt.cells, Pt.slots] at X9 l9 y9 z9 st9 hQ9
        subst l9 y9 z9
        obtain ⟨rfl, N9q, e9⟩ := hQ9
        have N9 := Fr.app N1 N9q
        refine Gl.by (g' := (mkF m 44 #[.val (.int p0), .val (.int (p0 &&& (3 : Int32))), .val (.ref (fn1 (p0 &&& (3 : Int32)) w_ENUM w_INTEGER w_FLOAT w_BOOLEAN)), .val (.int (1 : Int32))] [(.int (fn2 (fn1 (p0 &&& (3 : Int32)) w_ENUM w_INTEGER w_FLOAT w_BOOLEAN) w_ENUM w_INTEGER w_FLOAT w_BOOLEAN))])) (fun _ k => st9.trans k) ?_
        refine Gl.by (g' := (mkF m 45 #[.val (.int p0), .val (.int (p0 &&& (3 : Int32))), .val (.ref (fn1 (p0 &&& (3 : Int32)) w_ENUM w_INTEGER w_FLOAT w_BOOLEAN)), .val (.int (1 : Int32))] [(.int (1 : Int32)), (.int (fn2 (fn1 (p0 &&& (3 : Int32)) w_ENUM w_INTEGER w_FLOAT w_BOOLEAN) w_ENUM w_INTEGER w_FLOAT w_BOOLEAN))])) (fun _ k => XS.iloadN X9.here hx rfl (hb hby at_44) rfl k) ?_
        by_cases hc10 : (fn2 (fn1 (p0 &&& (3 : Int32)) w_ENUM w_INTEGER w_FLOAT w_BOOLEAN) w_ENUM w_INTEGER w_FLOAT w_BOOLEAN) = (1 : Int32)
        · refine Gl.by (g' := (mkF m 48 #[.val (.int p0), .val (.int (p0 &&& (3 : Int32))), .val (.ref (fn1 (p0 &&& (3 : Int32)) w_ENUM w_INTEGER w_FLOAT w_BOOLEAN)), .val (.int (1 : Int32))] [])) (fun _ k => XS.icmpNo X9.here hx rfl (hb hby at_45) rfl (teq hc10).2 k) ?_
          refine Gl.by (g' := (mkF m 49 #[.val (.int p0), .val (.int (p0 &&& (3 : Int32))), .val (.ref (fn1 (p0 &&& (3 : Int32)) w_ENUM w_INTEGER w_FLOAT w_BOOLEAN)), .val (.int (1 : Int32))] [(.int (1 : Int32))])) (fun _ k => XS.iconst X9.here hx rfl (hb hby at_48) k) ?_
          refine Gl.by (g' := (mkF m 53 #[.val (.int p0), .val (.int (p0 &&& (3 : Int32))), .val (.ref (fn1 (p0 &&& (3 : Int32)) w_ENUM w_INTEGER w_FLOAT w_BOOLEAN)), .val (.int (1 : Int32))] [(.int (1 : Int32))])) (fun _ k => XS.goto X9.here hx rfl (pc0 := 49) (pc' := 53) rfl (hb hby at_49) (by decide) (by decide) k) ?_
          exact Gl.outN X9 hx hk (t := .boolean) Bd.returns (by simp) (hb hby at_53) ⟨(congrArg (fun z => some (Value.int z)) (show nar .boolean (1 : Int32) = fn0 p0 w_ENUM w_INTEGER w_FLOAT w_BOOLEAN by unfold fn0; rw [if_neg hc2, if_neg hc5, if_pos hc8, if_pos hc10]; try rfl)), N9, e9⟩ (by decide) (by decide)
        · refine Gl.by (g' := (mkF m 52 #[.val (.int p0), .val (.int (p0 &&& (3 : Int32))), .val (.ref (fn1 (p0 &&& (3 : Int32)) w_ENUM w_INTEGER w_FLOAT w_BOOLEAN)), .val (.int (1 : Int32))] [])) (fun _ k => XS.icmpYes X9.here hx rfl (pc0 := 45) (pc' := 52) rfl (hb hby at_45) rfl (feq hc10).2 (by decide) (by decide) k) ?_
          refine Gl.by (g' := (mkF m 53 #[.val (.int p0), .val (.int (p0 &&& (3 : Int32))), .val (.ref (fn1 (p0 &&& (3 : Int32)) w_ENUM w_INTEGER w_FLOAT w_BOOLEAN)), .val (.int (1 : Int32))] [(.int (0 : Int32))])) (fun _ k => XS.iconst X9.here hx rfl (hb hby at_52) k) ?_
          exact Gl.outN X9 hx hk (t := .boolean) Bd.returns (by simp) (hb hby at_53) ⟨(congrArg (fun z => some (Value.int z)) (show nar .boolean (0 : Int32) = fn0 p0 w_ENUM w_INTEGER w_FLOAT w_BOOLEAN by unfold fn0; rw [if_neg hc2, if_neg hc5, if_pos hc8, if_neg hc10]; try rfl)), N9, e9⟩ (by decide) (by decide)
      · refine Gl.by (g' := (mkF m 38 #[.val (.int p0), .val (.int (p0 &&& (3 : Int32))), .val (.ref (fn1 (p0 &&& (3 : Int32)) w_ENUM w_INTEGER w_FLOAT w_BOOLEAN)), .unset] [])) (fun _ k => XS.icmpYes X1.here hx rfl (pc0 := 30) (pc' := 38) rfl (hb hby at_30) rfl (feq hc8).2 (by decide) (by decide) k) ?_
        refine Gl.by (g' := (mkF m 39 #[.val (.int p0), .val (.int (p0 &&& (3 : Int32))), .val (.ref (fn1 (p0 &&& (3 : Int32)) w_ENUM w_INTEGER w_FLOAT w_BOOLEAN)), .unset] [(.int (1 : Int32))])) (fun _ k => XS.iconst X1.here hx rfl (hb hby at_38) k) ?_
        refine Gl.by (g' := (mkF m 40 #[.val (.int p0), .val (.int (p0 &&& (3 : Int32))), .val (.ref (fn1 (p0 &&& (3 : Int32)) w_ENUM w_INTEGER w_FLOAT w_BOOLEAN)), .val (.int (1 : Int32))] [])) (fun _ k => XS.istoreN X1.here hx rfl (hb hby at_39) rfl (l' := #[.val (.int p0), .val (.int (p0 &&& (3 : Int32))), .val (.ref (fn1 (p0 &&& (3 : Int32)) w_ENUM w_INTEGER w_FLOAT w_BOOLEAN)), .val (.int (1 : Int32))]) rfl k) ?_
        refine Gl.by (g' := (mkF m 41 #[.val (.int p0), .val (.int (p0 &&& (3 : Int32))), .val (.ref (fn1 (p0 &&& (3 : Int32)) w_ENUM w_INTEGER w_FLOAT w_BOOLEAN)), .val (.int (1 : Int32))] [(.ref (fn1 (p0 &&& (3 : Int32)) w_ENUM w_INTEGER w_FLOAT w_BOOLEAN))])) (fun _ k => XS.aloadN X1.here hx rfl (hb hby at_40) rfl rfl k) ?_
        obtain ⟨cq11, kq11, q11a, q11b, q11c⟩ := isOf hZ e1 (Exa.ext O.2 (fn1_exa Z (p0 &&& (3 : Int32)) w_ENUM w_INTEGER w_FLOAT w_BOOLEAN W))
        obtain ⟨_, _, ⟨T11, L11, k11, n11⟩, -, X11, ⟨Lc11, hQ11, l11, y11, z11⟩, st11⟩ := X1.virtualBack hx (y := (⟨"com/example/evo_layout/evolayout/genome/Gene$Kind", "isNumber", "()Z"⟩ : MethodName)) (z := (⟨"com/example/evo_layout/evolayout/genome/Gene$Kind", "isNumber", "()Z"⟩ : MethodName)) hown (mvT hZ (hw _ (List.mem_of_getElem? (i := 7) rfl))) (mvT hZ (hw _ (List.mem_of_getElem? (i := 8) rfl))) (notFace_of_selects (args := #[]) (mvT hZ (hw _ (List.mem_of_getElem? (i := 10) rfl)))) (mvT hZ (hw _ (List.mem_of_getElem? (i := 10) rfl))) (mvT hZ (hw _ (List.mem_of_getElem? (i := 9) rfl))) (by decide) (backOf (W := 0) (rm2 l Z a0 hw [] (fn1 (p0 &&& (3 : Int32)) w_ENUM w_INTEGER w_FLOAT w_BOOLEAN) w_ENUM w_INTEGER w_FLOAT w_BOOLEAN h0 n0 O W) hZ (hw _ (List.mem_of_getElem? (i := 11) rfl)) (hw _ (List.mem_of_getElem? (i := 5) rfl)) (by decide) (by decide)) q11a q11c (g := (mkF m 41 #[.val (.int p0), .val (.int (p0 &&& (3 : Int32))), .val (.ref (fn1 (p0 &&& (3 : Int32)) w_ENUM w_INTEGER w_FLOAT w_BOOLEAN)), .val (.int (1 : Int32))] [(.ref (fn1 (p0 &&& (3 : Int32)) w_ENUM w_INTEGER w_FLOAT w_BOOLEAN))])) rfl (by rw [hml]; rfl) (Steps.refl _) (argsL := []) (rest := []) (lenOf pd1 rfl) rfl (by show 2 * 0 + _ ≤ _; exact Nat.le_of_eq rfl) (hb hby at_41) (fun _ _ => ⟨rfl, e1, (by decide : 0 + 0 ≤ _), (by decide : 0 + 0 ≤ _)⟩)
        dsimp only [Pt.U, Pt.locs, Pt.cells, Pt.slots] at X11 l11 y11 z11 st11 hQ11
        subst l11 y11 z11
        obtain ⟨rfl, N11q, e11⟩ := hQ11
        have N11 := Fr.app N1 N11q
        refine Gl.by (g' := (mkF m 44 #[.val (.int p0), .val (.int (p0 &&& (3 : Int32))), .val (.ref (fn1 (p0 &&& (3 : Int32)) w_ENUM w_INTEGER w_FLOAT w_BOOLEAN)), .val (.int (1 : Int32))] [(.int (fn2 (fn1 (p0 &&& (3 : Int32)) w_ENUM w_INTEGER w_FLOAT w_BOOLEAN) w_ENUM w_INTEGER w_FLOAT w_BOOLEAN))])) (fun _ k => st11.trans k) ?_
        refine Gl.by (g' := (mkF m 45 #[.val (.int p0), .val (.int (p0 &&& (3 : Int32))), .val (.ref (fn1 (p0 &&& (3 : Int32)) w_ENUM w_INTEGER w_FLOAT w_BOOLEAN)), .val (.int (1 : Int32))] [(.int (1 : Int32)), (.int (fn2 (fn1 (p0 &&& (3 : Int32)) w_ENUM w_INTEGER w_FLOAT w_BOOLEAN) w_ENUM w_INTEGER w_FLOAT w_BOOLEAN))])) (fun _ k => XS.iloadN X11.here hx rfl (hb hby at_44) rfl k) ?_
        by_cases hc12 : (fn2 (fn1 (p0 &&& (3 : Int32)) w_ENUM w_INTEGER w_FLOAT w_BOOLEAN) w_ENUM w_INTEGER w_FLOAT w_BOOLEAN) = (1 : Int32)
        · refine Gl.by (g' := (mkF m 48 #[.val (.int p0), .val (.int (p0 &&& (3 : Int32))), .val (.ref (fn1 (p0 &&& (3 : Int32)) w_ENUM w_INTEGER w_FLOAT w_BOOLEAN)), .val (.int (1 : Int32))] [])) (fun _ k => XS.icmpNo X11.here hx rfl (hb hby at_45) rfl (teq hc12).2 k) ?_
          refine Gl.by (g' := (mkF m 49 #[.val (.int p0), .val (.int (p0 &&& (3 : Int32))), .val (.ref (fn1 (p0 &&& (3 : Int32)) w_ENUM w_INTEGER w_FLOAT w_BOOLEAN)), .val (.int (1 : Int32))] [(.int (1 : Int32))])) (fun _ k => XS.iconst X11.here hx rfl (hb hby at_48) k) ?_
          refine Gl.by (g' := (mkF m 53 #[.val (.int p0), .val (.int (p0 &&& (3 : Int32))), .val (.ref (fn1 (p0 &&& (3 : Int32)) w_ENUM w_INTEGER w_FLOAT w_BOOLEAN)), .val (.int (1 : Int32))] [(.int (1 : Int32))])) (fun _ k => XS.goto X11.here hx rfl (pc0 := 49) (pc' := 53) rfl (hb hby at_49) (by decide) (by decide) k) ?_
          exact Gl.outN X11 hx hk (t := .boolean) Bd.returns (by simp) (hb hby at_53) ⟨(congrArg (fun z => some (Value.int z)) (show nar .boolean (1 : Int32) = fn0 p0 w_ENUM w_INTEGER w_FLOAT w_BOOLEAN by unfold fn0; rw [if_neg hc2, if_neg hc5, if_neg hc8, if_pos hc12]; try rfl)), N11, e11⟩ (by decide) (by decide)
        · refine Gl.by (g' := (mkF m 52 #[.val (.int p0), .val (.int (p0 &&& (3 : Int32))), .val (.ref (fn1 (p0 &&& (3 : Int32)) w_ENUM w_INTEGER w_FLOAT w_BOOLEAN)), .val (.int (1 : Int32))] [])) (fun _ k => XS.icmpYes X11.here hx rfl (pc0 := 45) (pc' := 52) rfl (hb hby at_45) rfl (feq hc12).2 (by decide) (by decide) k) ?_
          refine Gl.by (g' := (mkF m 53 #[.val (.int p0), .val (.int (p0 &&& (3 : Int32))), .val (.ref (fn1 (p0 &&& (3 : Int32)) w_ENUM w_INTEGER w_FLOAT w_BOOLEAN)), .val (.int (1 : Int32))] [(.int (0 : Int32))])) (fun _ k => XS.iconst X11.here hx rfl (hb hby at_52) k) ?_
          exact Gl.outN X11 hx hk (t := .boolean) Bd.returns (by simp) (hb hby at_53) ⟨(congrArg (fun z => some (Value.int z)) (show nar .boolean (0 : Int32) = fn0 p0 w_ENUM w_INTEGER w_FLOAT w_BOOLEAN by unfold fn0; rw [if_neg hc2, if_neg hc5, if_neg hc8, if_neg hc12]; try rfl)), N11, e11⟩ (by decide) (by decide)
theorem plain (p0 : Int32) (w_ENUM w_INTEGER w_FLOAT w_BOOLEAN : Addr) (h_ENUM_INTEGER : w_ENUM ≠ w_INTEGER) (h_ENUM_FLOAT : w_ENUM ≠ w_FLOAT) (h_ENUM_BOOLEAN : w_ENUM ≠ w_BOOLEAN) (h_INTEGER_ENUM : w_INTEGER ≠ w_ENUM) (h_INTEGER_FLOAT : w_INTEGER ≠ w_FLOAT) (h_INTEGER_BOOLEAN : w_INTEGER ≠ w_BOOLEAN) (h_FLOAT_ENUM : w_FLOAT ≠ w_ENUM) (h_FLOAT_INTEGER : w_FLOAT ≠ w_INTEGER) (h_FLOAT_BOOLEAN : w_FLOAT ≠ w_BOOLEAN) (h_BOOLEAN_ENUM : w_BOOLEAN ≠ w_ENUM) (h_BOOLEAN_INTEGER : w_BOOLEAN ≠ w_INTEGER) (h_BOOLEAN_FLOAT : w_BOOLEAN ≠ w_FLOAT) : fn0 p0 w_ENUM w_INTEGER w_FLOAT w_BOOLEAN = 1 := by
  unfold fn0
  generalize (p0 &&& (3 : Int32)) = k
  by_cases h0 : k = 0
  · subst h0; simp_all [fn1, fn2]
  by_cases h1 : k = 1
  · subst h1; simp_all [fn1, fn2]
  by_cases h2 : k = 2
  · subst h2; simp_all [fn1, fn2]
  simp_all [fn1, fn2]
set_option maxRecDepth 65536 in
set_option maxHeartbeats 40000000 in
theorem comes_1 {Post : Tables → Env → Array Value → State → Outcome → State → Prop} (hpost : ∀ tb e args s v u, (limb_1_1.after args s (.returned v) u = true ∧ limb_1_2.after args s (.returned v) u = true ∧ True) → FrameEnd s (.returned v) u (Jvm.fieldLocs frame_1_writes args s ++ Jvm.arrayLocs frame_1_arrays args s ++ Jvm.staticLocs frame_1_statics s) 0 0 → Post tb e args s (.returned v) u) :
    ArmFor flags0 classFile x code maxLocals ret World_1 tables_1 room_1 Calls_1 rest_1 Pre_1 Post := by
  intro l hfl _ _ p e ha hc hk s m args below hf hA hF happ hP
  obtain ⟨hcalls, hrest, hpre⟩ := hP
  obtain ⟨-, -, -, hnamed, -, -, -, hat⟩ := (Spec.applies_iff hf).mp happ
  obtain ⟨hg, hn⟩ := and_e (Cond.before_iff.mp (show (Jvm.Cond.and given_1 narrow_1).before args s = true from hpre))
  obtain ⟨ga1, gb1⟩ := and_e hg
  obtain ⟨w0, rfl⟩ : ∃ w0 : Value, args = #[w0] := by
    have hs : args.size = 1 := by simpa [Cond.value, given_1] using ga1
    obtain ⟨L⟩ := args
    match L, hs with
    | [w0], _ => exact ⟨w0, rfl⟩
  have hw := fun d (hd : d ∈ tables_1) => atoms_spec (ws := Jvm.Cond.code x code maxLocals ret :: tables_1) hat d (List.mem_cons_of_mem _ hd)
  have hfit : Fit s := fun {y c} hc i hi => by
    obtain ⟨ha, rfl⟩ := Array.getElem?_eq_some_iff.mp hc
    have q := List.all_eq_true.mp ((Array.all_eq_true_iff_forall_mem.mp hF) _ (Array.getElem_mem ha)) i (List.mem_range.mpr hi)
    simpa [Array.getElem?_eq_getElem hi] using q
  obtain ⟨i0, ei0⟩ := is_v gb1
  obtain rfl : w0 = (.int i0) := Option.some.inj ei0
  obtain ⟨y1, z1⟩ := and_e hn
  obtain ⟨y2, z2⟩ := and_e z1
  obtain ⟨y3, z3⟩ := and_e z2
  obtain ⟨y4, z4⟩ := and_e z3
  obtain ⟨y5, z5⟩ := and_e z4
  obtain ⟨y6, z6⟩ := and_e z5
  obtain ⟨y7, z7⟩ := and_e z6
  obtain ⟨w_ENUM, ev_w_ENUM⟩ := exa_v y1
  have S_w_ENUM := Sta.start ev_w_ENUM (Or.inr ⟨(hw _ (List.mem_of_getElem? (i := 5) rfl)), (hw _ (List.mem_of_getElem? (i := 6) rfl))⟩)
  have E_w_ENUM := Exa.start ev_w_ENUM y1
  obtain ⟨w_INTEGER, ev_w_INTEGER⟩ := exa_v y2
  have S_w_INTEGER := Sta.start ev_w_INTEGER (Or.inr ⟨(hw _ (List.mem_of_getElem? (i := 5) rfl)), (hw _ (List.mem_of_getElem? (i := 13) rfl))⟩)
  have E_w_INTEGER := Exa.start ev_w_INTEGER y2
  obtain ⟨w_FLOAT, ev_w_FLOAT⟩ := exa_v y5
  have S_w_FLOAT := Sta.start ev_w_FLOAT (Or.inr ⟨(hw _ (List.mem_of_getElem? (i := 5) rfl)), (hw _ (List.mem_of_getElem? (i := 15) rfl))⟩)
  have E_w_FLOAT := Exa.start ev_w_FLOAT y5
  obtain ⟨w_BOOLEAN, ev_w_BOOLEAN⟩ := exa_v y7
  have S_w_BOOLEAN := Sta.start ev_w_BOOLEAN (Or.inr ⟨(hw _ (List.mem_of_getElem? (i := 5) rfl)), (hw _ (List.mem_of_getElem? (i := 19) rfl))⟩)
  have E_w_BOOLEAN := Exa.start ev_w_BOOLEAN y7
  have F_ordinal_w_ENUM := Fld.start ((fld_at ev_w_ENUM).symm.trans (eqI_v y3))
  have F_ordinal_w_INTEGER := Fld.start ((fld_at ev_w_INTEGER).symm.trans (eqI_v y4))
  have F_ordinal_w_FLOAT := Fld.start ((fld_at ev_w_FLOAT).symm.trans (eqI_v y6))
  have F_ordinal_w_BOOLEAN := Fld.start ((fld_at ev_w_BOOLEAN).symm.trans (eqI_v z7))
  have n_ENUM_INTEGER : w_ENUM ≠ w_INTEGER := Fld.ne F_ordinal_w_ENUM F_ordinal_w_INTEGER (fun q => absurd (Value.int.inj q) (by decide))
  have n_ENUM_FLOAT : w_ENUM ≠ w_FLOAT := Fld.ne F_ordinal_w_ENUM F_ordinal_w_FLOAT (fun q => absurd (Value.int.inj q) (by decide))
  have n_ENUM_BOOLEAN : w_ENUM ≠ w_BOOLEAN := Fld.ne F_ordinal_w_ENUM F_ordinal_w_BOOLEAN (fun q => absurd (Value.int.inj q) (by decide))
  have n_INTEGER_ENUM : w_INTEGER ≠ w_ENUM := Fld.ne F_ordinal_w_INTEGER F_ordinal_w_ENUM (fun q => absurd (Value.int.inj q) (by decide))
  have n_INTEGER_FLOAT : w_INTEGER ≠ w_FLOAT := Fld.ne F_ordinal_w_INTEGER F_ordinal_w_FLOAT (fun q => absurd (Value.int.inj q) (by decide))
  have n_INTEGER_BOOLEAN : w_INTEGER ≠ w_BOOLEAN := Fld.ne F_ordinal_w_INTEGER F_ordinal_w_BOOLEAN (fun q => absurd (Value.int.inj q) (by decide))
  have n_FLOAT_ENUM : w_FLOAT ≠ w_ENUM := Fld.ne F_ordinal_w_FLOAT F_ordinal_w_ENUM (fun q => absurd (Value.int.inj q) (by decide))
  have n_FLOAT_INTEGER : w_FLOAT ≠ w_INTEGER := Fld.ne F_ordinal_w_FLOAT F_ordinal_w_INTEGER (fun q => absurd (Value.int.inj q) (by decide))
  have n_FLOAT_BOOLEAN : w_FLOAT ≠ w_BOOLEAN := Fld.ne F_ordinal_w_FLOAT F_ordinal_w_BOOLEAN (fun q => absurd (Value.int.inj q) (by decide))
  have n_BOOLEAN_ENUM : w_BOOLEAN ≠ w_ENUM := Fld.ne F_ordinal_w_BOOLEAN F_ordinal_w_ENUM (fun q => absurd (Value.int.inj q) (by decide))
  have n_BOOLEAN_INTEGER : w_BOOLEAN ≠ w_INTEGER := Fld.ne F_ordinal_w_BOOLEAN F_ordinal_w_INTEGER (fun q => absurd (Value.int.inj q) (by decide))
  have n_BOOLEAN_FLOAT : w_BOOLEAN ≠ w_FLOAT := Fld.ne F_ordinal_w_BOOLEAN F_ordinal_w_FLOAT (fun q => absurd (Value.int.inj q) (by decide))
  have W : Wd s w_ENUM w_INTEGER w_FLOAT w_BOOLEAN := ⟨S_w_ENUM, E_w_ENUM, S_w_INTEGER, E_w_INTEGER, S_w_FLOAT, E_w_FLOAT, S_w_BOOLEAN, E_w_BOOLEAN, F_ordinal_w_ENUM, F_ordinal_w_INTEGER, F_ordinal_w_FLOAT, F_ordinal_w_BOOLEAN⟩
  have hpl : fn0 i0 w_ENUM w_INTEGER w_FLOAT w_BOOLEAN = 1 := plain i0 w_ENUM w_INTEGER w_FLOAT w_BOOLEAN n_ENUM_INTEGER n_ENUM_FLOAT n_ENUM_BOOLEAN n_INTEGER_ENUM n_INTEGER_FLOAT n_INTEGER_BOOLEAN n_FLOAT_ENUM n_FLOAT_INTEGER n_FLOAT_BOOLEAN n_BOOLEAN_ENUM n_BOOLEAN_INTEGER n_BOOLEAN_FLOAT
  obtain ⟨n, o, h1, h2, h3, v, L, rfl, ⟨hv, N, -⟩, hq⟩ := rm0 l s _ hw tables_1 i0 w_ENUM w_INTEGER w_FLOAT w_BOOLEAN s.heap s.heap.size (Old.start s) W p e ha hc hk s m _ below hf ((Spec.applies_iff_loose hf).mp happ).1 ⟨rfl, State.Warmed39.refl s, rfl⟩ trivial
  rw [hpl] at hv
  subst hv
  refine ⟨n, _, h1, h2, h3, hpost _ _ _ _ _ _ ⟨Cond.after_iff.mpr rfl, Cond.after_iff.mpr (eq_i res_at (Term.int_eval (1)) rfl), trivial⟩ ⟨hq.1, hq.2.1, (hq.2.2.sift fun y hy => Or.inr (N y hy)).mono (by decide) (by decide)⟩⟩
theorem main_1_1 : Claimed_1_1 := comes_1 fun _ _ _ _ _ _ h hF => ⟨h.1, hF⟩
theorem main_1_2 : Claimed_1_2 := comes_1 fun _ _ _ _ _ _ h hF => ⟨h.2.1, hF⟩
end Jvm.Pilot.@@N@@
/-! WITNESS -/
namespace Jvm.Pilot.@@N@@
open Jvm Jvm.ClassFile Sem Op Lib Jvm.Free Jvm.Stand Jvm.Pilot.@@N@@.Jvm.D
/-! MADE BY PROGRAM (witnessworld.py) out of the Statement's table words and the real class files: 10 classes; the members and pool entries that the words name. The judged class is class 1, her method 2. -/
namespace start1
open Jvm.ClassFile
def u (s : String) : CpInfo := .utf8 (stringToUtf16 s)
/-- a pool by its gaps: so many unusable entries, then the entry; so many at the end -/
def gap : Nat → List CpInfo → List CpInfo
  | 0, r => r
  | n + 1, r => .unusable :: gap n r
def poolList (es : List (Nat × CpInfo)) (last : Nat) : List CpInfo := es.foldr (fun e r => gap e.1 (e.2 :: r)) (gap last [])
def pool (es : List (Nat × CpInfo)) (last : Nat) : Array CpInfo := ⟨poolList es last⟩
def fileOf (pool : Array CpInfo) (this : Nat) (attrs : Array Attribute := #[]) (ms : Array MethodInfo := #[]) (fl : Nat := 33) (sup : Nat := 0) (ifs : Array Nat := #[]) (fds : Array FieldInfo := #[]) : ClassFile where
  minorVersion := 0
  majorVersion := 65
  constantPool := pool
  accessFlags := fl
  thisClass := this
  superClass := sup
  interfaces := ifs
  fields := fds
  methods := ms
  attributes := attrs
def plain (name : String) (sup : Option ClassId) : Class where
  name := name
  kind := .ordinary
  loader := none
  accessFlags := 33
  super := sup
  interfaces := #[]
  cf := none
  fields := #[]
  methods := #[]
  instanceTypes := #[]
  staticTypes := #[]
  resolved := #[]
  callSites := []
  init := .initialized
  statics := none
  mirror := none

def pool0 : Array CpInfo := pool [(5, u "<init>"), (0, u "()V"), (1, .class_ 10), (1, u "java/lang/Object")] 113

def k0m0 : Method := { name := "<init>", desc := "()V", sig := { parameters := [], returnType := none }, accessFlags := 1, code := none }
/-- java/lang/Object -/
def k0 : Class := { plain "java/lang/Object" none with
  accessFlags := 33
  interfaces := #[]
  cf := some (fileOf pool0 8 #[] #[{ accessFlags := 1, nameIndex := 5, descriptorIndex := 6, attributes := #[] }] 33 0 #[] #[])
  fields := #[]
  methods := #[k0m0]
  instanceTypes := #[]
  staticTypes := #[]
  resolved := Array.replicate 124 none
  statics := none }

def pool1 : Array CpInfo := pool [(2, .class_ 4), (1, u "java/lang/Object"), (0, u "<init>"), (0, u "()V"), (0, .fieldref 8 9), (0, .class_ 10), (0, .nameAndType 11 12), (0, u "com/example/evo_layout/evolayout/genome/Gene$Kind"), (0, u "ENUM"), (0, u "Lcom/example/evo_layout/evolayout/genome/Gene$Kind;"), (0, .fieldref 8 14), (0, .nameAndType 15 12), (0, u "BOOLEAN"), (0, .fieldref 8 17), (0, .nameAndType 18 12), (0, u "INTEGER"), (0, .fieldref 8 20), (0, .nameAndType 21 12), (0, u "FLOAT"), (0, .methodref 23 24), (0, .class_ 25), (0, .nameAndType 26 27), (0, u "com/example/evo_layout/evolayout/genome/KindIsNumberPinLaw"), (0, u "pick"), (0, u "(I)Lcom/example/evo_layout/evolayout/genome/Gene$Kind;"), (0, .methodref 8 29), (0, .nameAndType 30 31), (0, u "isNumber"), (0, u "()Z"), (3, u "law"), (0, u "(I)Z")] 6

def k1m0 : Method := { name := "<init>", desc := "()V", sig := { parameters := [], returnType := none }, accessFlags := 2, code := none }
def k1c1 : Code := { maxStack := 2, maxLocals := 2, code := method_2_code, exceptionTable := #[], attributes := #[] }
def k1m1 : Method := { name := "pick", desc := "(I)Lcom/example/evo_layout/evolayout/genome/Gene$Kind;", sig := { parameters := [.int], returnType := some (.object "com/example/evo_layout/evolayout/genome/Gene$Kind") }, accessFlags := 10, code := some k1c1 }
def k1c2 : Code := { maxStack := 2, maxLocals := 4, code := code, exceptionTable := #[], attributes := #[] }
def k1m2 : Method := { name := "law", desc := "(I)Z", sig := { parameters := [.int], returnType := some .boolean }, accessFlags := 9, code := some k1c2 }
/-- com/example/evo_layout/evolayout/genome/KindIsNumberPinLaw -/
def k1 : Class := { plain "com/example/evo_layout/evolayout/genome/KindIsNumberPinLaw" (some 0) with
  accessFlags := 49
  interfaces := #[]
  cf := some (fileOf pool1 23 #[] #[{ accessFlags := 2, nameIndex := 5, descriptorIndex := 6, attributes := #[] }, { accessFlags := 10, nameIndex := 26, descriptorIndex := 27, attributes := #[] }, { accessFlags := 9, nameIndex := 35, descriptorIndex := 36, attributes := #[] }] 49 2 #[] #[])
  fields := #[]
  methods := #[k1m0, k1m1, k1m2]
  instanceTypes := #[]
  staticTypes := #[]
  resolved := Array.replicate 43 none
  statics := none }

def pool2 : Array CpInfo := pool [(1, .class_ 2), (0, u "java/lang/constant/Constable"), (0, .class_ 4), (0, u "java/lang/Object")] 6

/-- java/lang/constant/Constable -/
def k2 : Class := { plain "java/lang/constant/Constable" (some 0) with
  accessFlags := 1537
  interfaces := #[]
  cf := some (fileOf pool2 1 #[] #[] 1537 3 #[] #[])
  fields := #[]
  methods := #[]
  instanceTypes := #[]
  staticTypes := #[]
  resolved := Array.replicate 11 none
  statics := none }

def pool3 : Array CpInfo := pool [(1, .class_ 2), (0, u "java/lang/Comparable"), (0, .class_ 4), (0, u "java/lang/Object")] 7

/-- java/lang/Comparable -/
def k3 : Class := { plain "java/lang/Comparable" (some 0) with
  accessFlags := 1537
  interfaces := #[]
  cf := some (fileOf pool3 1 #[] #[] 1537 3 #[] #[])
  fields := #[]
  methods := #[]
  instanceTypes := #[]
  staticTypes := #[]
  resolved := Array.replicate 12 none
  statics := none }

def pool4 : Array CpInfo := pool [(1, .class_ 2), (0, u "java/io/Serializable"), (0, .class_ 4), (0, u "java/lang/Object")] 2

/-- java/io/Serializable -/
def k4 : Class := { plain "java/io/Serializable" (some 0) with
  accessFlags := 1537
  interfaces := #[]
  cf := some (fileOf pool4 1 #[] #[] 1537 3 #[] #[])
  fields := #[]
  methods := #[]
  instanceTypes := #[]
  staticTypes := #[]
  resolved := Array.replicate 7 none
  statics := none }

def pool5 : Array CpInfo := pool [(2, .class_ 4), (1, u "java/lang/Enum"), (0, u "name"), (0, u "Ljava/lang/String;"), (2, u "ordinal"), (0, u "I"), (1, .class_ 14), (1, u "java/lang/Object"), (4, u "hash"), (86, .class_ 108), (1, u "java/lang/Enum$EnumDesc"), (2, .class_ 112), (0, u "java/lang/constant/Constable"), (0, .class_ 114), (0, u "java/lang/Comparable"), (0, .class_ 116), (0, u "java/io/Serializable")] 87

/-- java/lang/Enum -/
def k5 : Class := { plain "java/lang/Enum" (some 0) with
  accessFlags := 1057
  interfaces := #[2, 3, 4]
  cf := some (fileOf pool5 2 #[.nestMembers #[106]] #[] 1057 12 #[111, 113, 115] #[{ accessFlags := 18, nameIndex := 5, descriptorIndex := 6, attributes := #[] }, { accessFlags := 18, nameIndex := 9, descriptorIndex := 10, attributes := #[] }, { accessFlags := 2, nameIndex := 19, descriptorIndex := 10, attributes := #[] }])
  fields := #[{ name := "name", type := (.object "java/lang/String"), accessFlags := 18, slot := 0, constantValue := 0 }, { name := "ordinal", type := .int, accessFlags := 18, slot := 1, constantValue := 0 }, { name := "hash", type := .int, accessFlags := 2, slot := 2, constantValue := 0 }]
  methods := #[]
  instanceTypes := #[(.object "java/lang/String"), .int, .int]
  staticTypes := #[]
  resolved := Array.replicate 204 none
  statics := none }

def pool6 : Array CpInfo := pool [(1, .class_ 2), (0, u "com/example/evo_layout/evolayout/genome/Gene$Kind"), (2, u "ENUM"), (0, u "Lcom/example/evo_layout/evolayout/genome/Gene$Kind;"), (2, u "BOOLEAN"), (0, .fieldref 1 11), (0, .nameAndType 12 6), (0, u "INTEGER"), (0, .fieldref 1 14), (0, .nameAndType 15 6), (0, u "FLOAT"), (2, u "$VALUES"), (0, u "[Lcom/example/evo_layout/evolayout/genome/Gene$Kind;"), (6, .class_ 28), (1, u "java/lang/Enum"), (39, u "isNumber"), (0, u "()Z"), (6, .class_ 77), (0, u "com/example/evo_layout/evolayout/genome/Gene")] 2

def k6c0 : Code := { maxStack := 2, maxLocals := 1, code := prog_16_method_5_code, exceptionTable := #[], attributes := #[] }
def k6m0 : Method := { name := "isNumber", desc := "()Z", sig := { parameters := [], returnType := some .boolean }, accessFlags := 1, code := some k6c0 }
/-- com/example/evo_layout/evolayout/genome/Gene$Kind -/
def k6 : Class := { plain "com/example/evo_layout/evolayout/genome/Gene$Kind" (some 5) with
  accessFlags := 16433
  interfaces := #[]
  cf := some (fileOf pool6 1 #[.nestHost 76] #[{ accessFlags := 1, nameIndex := 68, descriptorIndex := 69, attributes := #[] }] 16433 26 #[] #[{ accessFlags := 16409, nameIndex := 5, descriptorIndex := 6, attributes := #[] }, { accessFlags := 16409, nameIndex := 9, descriptorIndex := 6, attributes := #[] }, { accessFlags := 16409, nameIndex := 12, descriptorIndex := 6, attributes := #[] }, { accessFlags := 16409, nameIndex := 15, descriptorIndex := 6, attributes := #[] }, { accessFlags := 4122, nameIndex := 18, descriptorIndex := 19, attributes := #[] }])
  fields := #[{ name := "ENUM", type := (.object "com/example/evo_layout/evolayout/genome/Gene$Kind"), accessFlags := 16409, slot := 0, constantValue := 0 }, { name := "BOOLEAN", type := (.object "com/example/evo_layout/evolayout/genome/Gene$Kind"), accessFlags := 16409, slot := 1, constantValue := 0 }, { name := "INTEGER", type := (.object "com/example/evo_layout/evolayout/genome/Gene$Kind"), accessFlags := 16409, slot := 2, constantValue := 0 }, { name := "FLOAT", type := (.object "com/example/evo_layout/evolayout/genome/Gene$Kind"), accessFlags := 16409, slot := 3, constantValue := 0 }, { name := "$VALUES", type := (.array (.object "com/example/evo_layout/evolayout/genome/Gene$Kind")), accessFlags := 4122, slot := 4, constantValue := 0 }]
  methods := #[k6m0]
  instanceTypes := #[(.object "java/lang/String"), .int, .int]
  staticTypes := #[(.object "com/example/evo_layout/evolayout/genome/Gene$Kind"), (.object "com/example/evo_layout/evolayout/genome/Gene$Kind"), (.object "com/example/evo_layout/evolayout/genome/Gene$Kind"), (.object "com/example/evo_layout/evolayout/genome/Gene$Kind"), (.array (.object "com/example/evo_layout/evolayout/genome/Gene$Kind"))]
  resolved := Array.replicate 80 none
  statics := some 0 }

def pool7 : Array CpInfo := pool [(1, u "java/lang/Cloneable"), (0, .class_ 1), (0, u "java/lang/Object"), (0, .class_ 3)] 3

/-- java/lang/Cloneable -/
def k7 : Class := { plain "java/lang/Cloneable" (some 0) with
  accessFlags := 1537
  interfaces := #[]
  cf := some (fileOf pool7 2 #[] #[] 1537 4 #[] #[])
  fields := #[]
  methods := #[]
  instanceTypes := #[]
  staticTypes := #[]
  resolved := Array.replicate 8 none
  statics := none }

/-- the primitive byte -/
def k8 : Class := { plain "byte" none with kind := .primitive 'B', accessFlags := 0x411 }
/-- [B -/
def k9 : Class := { plain "[B" (some 0) with kind := .array 8 .byte, interfaces := #[7, 4], accessFlags := 1041 }

def heap : Heap := #[{ cls := 6, slots := #[.ref 1, .ref 4, .ref 2, .ref 3, .null], vm := .statics 6 },
  { cls := 6, slots := #[.null, .int 0, .int 0], vm := .none },
  { cls := 6, slots := #[.null, .int 2, .int 0], vm := .none },
  { cls := 6, slots := #[.null, .int 3, .int 0], vm := .none },
  { cls := 6, slots := #[.null, .int 1, .int 0], vm := .none }]
def classes : Array Class := #[k0, k1, k2, k3, k4, k5, k6, k7, k8, k9]
def interned : List (Array UInt16 × Addr) := []
def slotsUsed : Nat := 17
def theMethod : MethodId := ⟨1, 2⟩
def args0 : Array Value := #[.int 5]
def aboutOver (below : List Frame) : State where
  vm := { classes := classes, interned := interned.toArray }
  heap := heap
  slotsUsed := slotsUsed
  threads := #[{ frames := .invoking theMethod args0 :: below }]
def below0 : List Frame := [.native { method := ⟨0, 0⟩, args := #[] }]
def about1 : State := aboutOver below0
def p0 : Program := .bare "" "" ""
def e0 : Env := launch0.env 0 0 0
theorem w_frames : about1.frames = Frame.invoking theMethod args0 :: below0 := rfl
set_option maxRecDepth 65536 in
theorem w_args : argsFit about1.vm theMethod args0 = true := by decide +kernel
set_option maxRecDepth 65536 in
theorem w_heap : heapFits about1 = true := by decide +kernel
set_option maxRecDepth 65536 in
theorem w_runnable : about1.curStatus? = some .runnable := by decide +kernel
set_option maxRecDepth 65536 in
theorem w_alone : about1.alone = true := by decide +kernel
set_option maxRecDepth 65536 in
theorem w_named : about1.methodNamed? x = some theMethod := by decide +kernel
set_option maxRecDepth 65536 in
theorem w_hears : about1.hears theMethod below0 = true := by decide +kernel
set_option maxRecDepth 65536 in
theorem w_ripe : about1.ripe theMethod args0 below0 = true := by decide +kernel
theorem w_running : about1.status = .running := rfl
set_option maxRecDepth 65536 in
theorem w_room : about1.hasRoom e0.platform room_1 = true :=
  launch0.hasRoom_least _ room_1 (by decide +kernel) (by decide +kernel) (by decide +kernel) (by decide +kernel) (by decide +kernel) (by decide +kernel)
theorem allAtoms_all (ts : List Jvm.Cond) (a : Array Jvm.Value) (st : Jvm.State) : (allAtoms ts).before a st = ts.all (fun c => c.before a st) := by
  induction ts with
  | nil => rfl
  | cons c t ih =>
    show (Jvm.Cond.and c (allAtoms t)).before a st = _
    rw [Jvm.Cond.before_and, ih, List.all_cons]
def words1 : List Jvm.Cond := Jvm.Cond.code x code maxLocals ret :: tables_1
/-- a 'code' word, met by the world's own term for the bytes: nothing is compared byte by byte -/
theorem code_word {y : MethodName} {bytes : ByteArray} {mx : Nat} {rt : Option FieldType} {a : Array Value} {s : State} {m : MethodId} {meth : Method} {c : Code} (h1 : s.methodNamed? y = some m) (h2 : s.vm.method? m = some meth) (h3 : meth.code = some c) (h4 : c.code = bytes)
    (h5 : (c.maxLocals == mx && c.exceptionTable.isEmpty && decide (c.maxStack ≤ mostOperands) && decide (meth.sig.returnType = rt) && !meth.locks && decide (parseMethodDescriptor y.desc = some meth.sig)) = true) : (Jvm.Cond.code y bytes mx rt).before a s = true := by
  simp only [Bool.and_eq_true, beq_iff_eq, Bool.not_eq_true', decide_eq_true_eq] at h5
  obtain ⟨⟨⟨⟨⟨g1, g2⟩, g3⟩, g4⟩, g5⟩, g6⟩ := h5
  simp [Cond.before, Cond.holds, Cond.value, h1, h2, h3, h4, g1, g2, g3, g4, g5, g6]
def isCode : Jvm.Cond → Bool
  | .code _ _ _ _ => true
  | _ => false
theorem all_split {L : List Jvm.Cond} {P : Jvm.Cond → Bool} (h1 : L.all (fun c => isCode c || P c) = true) (h2 : ∀ c ∈ L.filter isCode, P c = true) : L.all P = true := by
  refine List.all_eq_true.mpr fun c hc => ?_
  have h := List.all_eq_true.mp h1 c hc
  rcases Bool.eq_false_or_eq_true (isCode c) with hi | hi
  · exact h2 c (List.mem_filter.mpr ⟨hc, hi⟩)
  · simpa [hi] using h
set_option maxRecDepth 65536 in
theorem w_c0 : (Jvm.Cond.code x code maxLocals ret).before args0 about1 = true := code_word (m := ⟨1, 2⟩) (meth := k1m2) (c := k1c2) (by decide +kernel) rfl rfl rfl (by decide +kernel)
set_option maxRecDepth 65536 in
theorem w_c1 : (Jvm.Cond.code ({ cls := "com/example/evo_layout/evolayout/genome/KindIsNumberPinLaw", name := "pick", desc := "(I)Lcom/example/evo_layout/evolayout/genome/Gene$Kind;" } : Jvm.MethodName) method_2_code (2 : Nat) (Option.some (Jvm.ClassFile.FieldType.object "com/example/evo_layout/evolayout/genome/Gene$Kind"))).before args0 about1 = true := code_word (m := ⟨1, 1⟩) (meth := k1m1) (c := k1c1) (by decide +kernel) rfl rfl rfl (by decide +kernel)
set_option maxRecDepth 65536 in
theorem w_c2 : (Jvm.Cond.code ({ cls := "com/example/evo_layout/evolayout/genome/Gene$Kind", name := "isNumber", desc := "()Z" } : Jvm.MethodName) prog_16_method_5_code (1 : Nat) (Option.some Jvm.ClassFile.FieldType.boolean)).before args0 about1 = true := code_word (m := ⟨6, 0⟩) (meth := k6m0) (c := k6c0) (by decide +kernel) rfl rfl rfl (by decide +kernel)
def codes1 : List Jvm.Cond := [Jvm.Cond.code x code maxLocals ret, Jvm.Cond.code ({ cls := "com/example/evo_layout/evolayout/genome/KindIsNumberPinLaw", name := "pick", desc := "(I)Lcom/example/evo_layout/evolayout/genome/Gene$Kind;" } : Jvm.MethodName) method_2_code (2 : Nat) (Option.some (Jvm.ClassFile.FieldType.object "com/example/evo_layout/evolayout/genome/Gene$Kind")), Jvm.Cond.code ({ cls := "com/example/evo_layout/evolayout/genome/Gene$Kind", name := "isNumber", desc := "()Z" } : Jvm.MethodName) prog_16_method_5_code (1 : Nat) (Option.some Jvm.ClassFile.FieldType.boolean)]
set_option maxRecDepth 65536 in
theorem codes_eq : words1.filter isCode = codes1 := rfl
theorem w_codes : ∀ c ∈ words1.filter isCode, c.before args0 about1 = true := by
  rw [codes_eq]
  intro c hc
  simp only [codes1, List.mem_cons, List.not_mem_nil, or_false] at hc
  rcases hc with rfl | rfl | rfl
  · exact w_c0
  · exact w_c1
  · exact w_c2
set_option maxRecDepth 65536 in
theorem w_t1 : words1.all (fun c => isCode c || c.before args0 about1) = true := by decide +kernel
theorem w_tables : (allAtoms (Jvm.Cond.code x code maxLocals ret :: tables_1)).before args0 about1 = true := by
  rw [allAtoms_all]
  show words1.all (fun c => c.before args0 about1) = true
  refine all_split ?_ w_codes
  rw [w_t1]
set_option maxRecDepth 65536 in
theorem w_case : (Jvm.Cond.and given_1 narrow_1).before args0 about1 = true := by decide +kernel
theorem w_applies : (headSpec (Jvm.Cond.code x code maxLocals ret :: tables_1) room_1).applies x e0.platform about1 = true :=
  (Spec.applies_iff w_frames).mpr ⟨w_running, w_runnable, w_alone, w_named, w_hears, w_ripe, w_room, w_tables⟩
theorem atStart : AtStart classFile x code maxLocals ret World_1 tables_1 room_1 Calls_1 rest_1 Pre_1 launch0 p0 e0 about1 theMethod args0 below0 :=
  ⟨lists_1, trivial, launch0.admits_env _ _ _, launch0.least_env, fairChoices_fair.cas, fairChoices_fair.clock, w_frames, w_args, w_heap, w_applies, trivial, trivial, w_case⟩
end start1
theorem witness_1 : WitnessClaimed_1 := ⟨start1.p0, start1.e0, start1.about1, start1.theMethod, start1.args0, start1.below0, start1.atStart⟩
end Jvm.Pilot.@@N@@
