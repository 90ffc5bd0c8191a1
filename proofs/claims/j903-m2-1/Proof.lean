import JvmDerived
import JvmDerived.Pilot.@@N@@Statement
import JvmDerived.Pilot.@@N@@Code
set_option linter.unusedVariables false
set_option linter.unusedSimpArgs false
namespace Jvm.RoadKit
open Sem ClassFile Op Lib Jvm.Stand Jvm.Free Jvm.LawKit
section New
variable {p : Program} {l : Launch} {e : Env} {R : Room} {s : State} {m : MethodId} {args : Array Value} {below : List Frame} {meth : Method} {c : Code} {T : State} {locs : List Loc} {cells slots : Nat}
theorem retI (X : Stand p l e R s m args below meth c T locs cells slots) (hx : p.tables.exec = Jvm.exec) {pc : Nat} {Ls : Array Slot} {z : Int32} {rest : List Value} (hret : meth.sig.returnType = some .int) (hd : decode c.code pc = .ok (.ireturn, 1)) {fs : List Frame}
    (hl : ∀ (f : JFrame) (acts : List Action), f.method = m → f.locked = none → f.entered = [] → (doReturn e (T.setTop f) acts (some (.int z))).1 = T.setFrames fs) : Steps p.tables e below (T.setTop (mkF m pc Ls (.int z :: rest))) (T.setFrames fs) := by
  have hm' : T.vm.method? m = some meth := X.method'
  have hn : narrow .int (.int z) = .int z := rfl
  show Steps p.tables e below (T.setTop { method := m, pc := pc, locals := Ls, stack := _ :: rest, locked := none }) _
  jvm_step X.here [X.here.top, hx, hd, hm', hret, hn]
  first | (intro acts; rw [hl _ acts rfl rfl rfl]) | rw [hl _ _ rfl rfl rfl]
  exact Steps.refl _
/-- from here the run comes to an end of which Po says something -/
def Gl (p : Program) (e : Env) (below : List Frame) (Po : State → Outcome → Prop) (T : State) (g : JFrame) : Prop := ∃ s₂ o, Steps p.tables e below (T.setTop g) s₂ ∧ s₂.status = .running ∧ Ended s₂ below o ∧ Po s₂ o
def Pos (C S : Nat) (Q : Option Value → Heap → List Loc → Prop) (s : State) (U : State) (o : Outcome) : Prop := ∃ v L, o = .returned v ∧ Q v U.heap L ∧ FrameEnd s o U L C S
theorem Gl.by {Po : State → Outcome → Prop} {T' : State} {g g' : JFrame} (st : ∀ t, Steps p.tables e below (T'.setTop g') t → Steps p.tables e below (T.setTop g) t) (h : Gl p e below Po T' g') : Gl p e below Po T g := by
  obtain ⟨a, o, k, r⟩ := h
  exact ⟨a, o, st _ k, r⟩
theorem Gl.cast {Po : State → Outcome → Prop} {g g' : JFrame} (q : g = g') (h : Gl p e below Po T g') : Gl p e below Po T g := q ▸ h
theorem Gl.outN (X : Stand p l e R s m args below meth c T locs cells slots) (hx : p.tables.exec = Jvm.exec) (hk : meth.locks = false) {pc : Nat} {Ls : Array Slot} {z : Int32} {t : FieldType} {rest : List Value} (hret : meth.sig.returnType = some t) (ht : t = .boolean ∨ t = .byte ∨ t = .char ∨ t = .short)
    (hd : decode c.code pc = .ok (.ireturn, 1)) {C S : Nat} {Q : Option Value → Heap → List Loc → Prop} (hQ : Q (some (.int (nar t z))) T.heap locs) (hc : cells ≤ C) (hs : slots ≤ S) : Gl p e below (Pos C S Q s) T (mkF m pc Ls (.int z :: rest)) := by
  obtain ⟨fs, hr, hrun, hended, hW, hsame⟩ := X.leave (v := some (.int (nar t z))) (fun h => by rw [hret] at h; cases h) hk
  exact ⟨_, _, retN X hx hret ht hd hr, hrun, hended, _, _, rfl, hQ, ⟨_, rfl⟩, hW, hsame.mono hc hs⟩
theorem Gl.outI (X : Stand p l e R s m args below meth c T locs cells slots) (hx : p.tables.exec = Jvm.exec) (hk : meth.locks = false) {pc : Nat} {Ls : Array Slot} {z : Int32} {rest : List Value} (hret : meth.sig.returnType = some .int)
    (hd : decode c.code pc = .ok (.ireturn, 1)) {C S : Nat} {Q : Option Value → Heap → List Loc → Prop} (hQ : Q (some (.int z)) T.heap locs) (hc : cells ≤ C) (hs : slots ≤ S) : Gl p e below (Pos C S Q s) T (mkF m pc Ls (.int z :: rest)) := by
  obtain ⟨fs, hr, hrun, hended, hW, hsame⟩ := X.leave (v := some (.int z)) (fun h => by rw [hret] at h; cases h) hk
  exact ⟨_, _, retI X hx hret hd hr, hrun, hended, _, _, rfl, hQ, ⟨_, rfl⟩, hW, hsame.mono hc hs⟩
theorem Gl.outJ (X : Stand p l e R s m args below meth c T locs cells slots) (hx : p.tables.exec = Jvm.exec) (hk : meth.locks = false) {pc : Nat} {Ls : Array Slot} {z : Int64} {rest : List Value} (hret : meth.sig.returnType = some .long)
    (hd : decode c.code pc = .ok (.lreturn, 1)) {C S : Nat} {Q : Option Value → Heap → List Loc → Prop} (hQ : Q (some (.long z)) T.heap locs) (hc : cells ≤ C) (hs : slots ≤ S) : Gl p e below (Pos C S Q s) T (mkF m pc Ls (.long z :: rest)) := by
  obtain ⟨fs, hr, hrun, hended, hW, hsame⟩ := X.leave (v := some (.long z)) (fun h => by rw [hret] at h; cases h) hk
  exact ⟨_, _, retOut X hx hret rfl (Or.inr (Or.inl ⟨rfl, rfl, _, rfl⟩)) hd hr, hrun, hended, _, _, rfl, hQ, ⟨_, rfl⟩, hW, hsame.mono hc hs⟩
theorem Gl.outA (X : Stand p l e R s m args below meth c T locs cells slots) (hx : p.tables.exec = Jvm.exec) (hk : meth.locks = false) {pc : Nat} {Ls : Array Slot} {w : Value} {t : FieldType} {rest : List Value} (hret : meth.sig.returnType = some t) (ht : t.isReference = true) (hw : w.isRef = true)
    (hd : decode c.code pc = .ok (.areturn, 1)) {C S : Nat} {Q : Option Value → Heap → List Loc → Prop} (hQ : Q (some w) T.heap locs) (hc : cells ≤ C) (hs : slots ≤ S) : Gl p e below (Pos C S Q s) T (mkF m pc Ls (w :: rest)) := by
  obtain ⟨fs, hr, hrun, hended, hW, hsame⟩ := X.leave (v := some w) (fun h => by rw [hret] at h; cases h) hk
  exact ⟨_, _, retOut X hx hret (by rcases ref_cases hw with rfl | ⟨a, rfl⟩ <;> cases t <;> first | rfl | (cases ht; done)) (Or.inr (Or.inr (Or.inr (Or.inr ⟨rfl, ht, hw⟩)))) hd hr, hrun, hended, _, _, rfl, hQ, ⟨_, rfl⟩, hW, hsame.mono hc hs⟩
theorem Gl.outV (X : Stand p l e R s m args below meth c T locs cells slots) (hx : p.tables.exec = Jvm.exec) (hk : meth.locks = false) {pc : Nat} {Ls : Array Slot} (hret : meth.sig.returnType = none)
    (hd : decode c.code pc = .ok (.return_, 1)) {C S : Nat} {Q : Option Value → Heap → List Loc → Prop} (hQ : Q none T.heap locs) (hc : cells ≤ C) (hs : slots ≤ S) : Gl p e below (Pos C S Q s) T (mkF m pc Ls []) := by
  obtain ⟨fs, hr, hrun, hended, hW, hsame⟩ := X.leave (v := none) (fun _ => rfl) hk
  exact ⟨_, _, X.returnOut hx hret hd hr, hrun, hended, _, _, rfl, hQ, ⟨_, rfl⟩, hW, hsame.mono hc hs⟩
theorem eqI_v {args : Array Value} {first s : State} {o : Option Outcome} {idx : List Nat} {t : Term} {k : Int32} (h : (Cond.eq t (.int k)).value args first o s idx = some true) : t.eval args first o idx s = some (.int k) := by
  simp only [Cond.value, Term.eval] at h
  cases ht : t.eval args first o idx s with
  | none => simp [ht] at h
  | some x => cases x <;> simp [ht] at h ⊢; exact h
end New
end Jvm.RoadKit
namespace Jvm.Pilot.@@N@@
open Jvm Jvm.ClassFile Sem Op Lib Jvm.Free Jvm.Stand Jvm.LawKit Jvm.RoadKit Bundle Jvm.Pilot.@@N@@.Jvm.D
def Wd (Z : State) (w_AMBULATORY w_MATERNITY w_LABORATORY w_DENTAL w_OTHER w_MEDICATION w_HOSPITAL w_PHYSIOTHERAPY : Addr) : Prop := Sta Z Z.heap "com/example/deckwerk/deckwerk/TreatmentType" "AMBULATORY" "Lcom/example/deckwerk/deckwerk/TreatmentType;" (.ref w_AMBULATORY) ∧ Exa Z Z.heap w_AMBULATORY "com/example/deckwerk/deckwerk/TreatmentType" ∧ Sta Z Z.heap "com/example/deckwerk/deckwerk/TreatmentType" "MATERNITY" "Lcom/example/deckwerk/deckwerk/TreatmentType;" (.ref w_MATERNITY) ∧ Exa Z Z.heap w_MATERNITY "com/example/deckwerk/deckwerk/TreatmentType" ∧ Sta Z Z.heap "com/example/deckwerk/deckwerk/TreatmentType" "LABORATORY" "Lcom/example/deckwerk/deckwerk/TreatmentType;" (.ref w_LABORATORY) ∧ Exa Z Z.heap w_LABORATORY "com/example/deckwerk/deckwerk/TreatmentType" ∧ Sta Z Z.heap "com/example/deckwerk/deckwerk/TreatmentType" "DENTAL" "Lcom/example/deckwerk/deckwerk/TreatmentType;" (.ref w_DENTAL) ∧ Exa Z Z.heap w_DENTAL "com/example/deckwerk/deckwerk/TreatmentType" ∧ Sta Z Z.heap "com/example/deckwerk/deckwerk/TreatmentType" "OTHER" "Lcom/example/deckwerk/deckwerk/TreatmentType;" (.ref w_OTHER) ∧ Exa Z Z.heap w_OTHER "com/example/deckwerk/deckwerk/TreatmentType" ∧ Sta Z Z.heap "com/example/deckwerk/deckwerk/TreatmentType" "MEDICATION" "Lcom/example/deckwerk/deckwerk/TreatmentType;" (.ref w_MEDICATION) ∧ Exa Z Z.heap w_MEDICATION "com/example/deckwerk/deckwerk/TreatmentType" ∧ Sta Z Z.heap "com/example/deckwerk/deckwerk/TreatmentType" "HOSPITAL" "Lcom/example/deckwerk/deckwerk/TreatmentType;" (.ref w_HOSPITAL) ∧ Exa Z Z.heap w_HOSPITAL "com/example/deckwerk/deckwerk/TreatmentType" ∧ Sta Z Z.heap "com/example/deckwerk/deckwerk/TreatmentType" "PHYSIOTHERAPY" "Lcom/example/deckwerk/deckwerk/TreatmentType;" (.ref w_PHYSIOTHERAPY) ∧ Exa Z Z.heap w_PHYSIOTHERAPY "com/example/deckwerk/deckwerk/TreatmentType" ∧ Fld Z Z.heap w_AMBULATORY "java/lang/Enum" "ordinal" "I" (.int (0 : Int32)) ∧ Fld Z Z.heap w_MATERNITY "java/lang/Enum" "ordinal" "I" (.int (5 : Int32)) ∧ Fld Z Z.heap w_LABORATORY "java/lang/Enum" "ordinal" "I" (.int (3 : Int32)) ∧ Fld Z Z.heap w_DENTAL "java/lang/Enum" "ordinal" "I" (.int (6 : Int32)) ∧ Fld Z Z.heap w_OTHER "java/lang/Enum" "ordinal" "I" (.int (7 : Int32)) ∧ Fld Z Z.heap w_MEDICATION "java/lang/Enum" "ordinal" "I" (.int (2 : Int32)) ∧ Fld Z Z.heap w_HOSPITAL "java/lang/Enum" "ordinal" "I" (.int (1 : Int32)) ∧ Fld Z Z.heap w_PHYSIOTHERAPY "java/lang/Enum" "ordinal" "I" (.int (4 : Int32))
theorem d3_0 : decode method_3_code 0 = .ok (.iload_n 0, 1) := by decide +kernel
theorem d3_1 : decode method_3_code 1 = .ok (.iconst 5, 1) := by decide +kernel
theorem d3_2 : decode method_3_code 2 = .ok (.if_icmp .ne 5, 3) := by decide +kernel
theorem d3_5 : decode method_3_code 5 = .ok (.iconst 0, 1) := by decide +kernel
theorem d3_6 : decode method_3_code 6 = .ok (.ireturn, 1) := by decide +kernel
theorem d3_7 : decode method_3_code 7 = .ok (.iconst 1, 1) := by decide +kernel
theorem d3_8 : decode method_3_code 8 = .ok (.ireturn, 1) := by decide +kernel
theorem pn0 : plainName "com/example/deckwerk/deckwerk/TreatmentTypeIsCostSharedPinLaw" = true := by first | (simp [plainName, overriddenIn]; done) | decide +kernel
theorem ef3 (m : MethodId) (x0 : Int32) : entryFrame m #[(.int x0)] 1 = mkF m 0 #[.val (.int x0)] [] := by first | (simp [entryFrame, mkF, argsToLocals, Value.category]; done) | rfl
def fn3 (p0 : Int32) (w_AMBULATORY w_MATERNITY w_LABORATORY w_DENTAL w_OTHER w_MEDICATION w_HOSPITAL w_PHYSIOTHERAPY : Addr) : Int32 := if p0 = (5 : Int32) then (0 : Int32) else (1 : Int32)
def Q3 (p0 : Int32) (w_AMBULATORY w_MATERNITY w_LABORATORY w_DENTAL w_OTHER w_MEDICATION w_HOSPITAL w_PHYSIOTHERAPY : Addr) (h0 : Heap) (n0 : Nat) (v : Option Value) (h : Heap) (L : List Loc) : Prop := v = some (.int (fn3 p0 w_AMBULATORY w_MATERNITY w_LABORATORY w_DENTAL w_OTHER w_MEDICATION w_HOSPITAL w_PHYSIOTHERAPY)) ∧ Fr n0 L ∧ h = h0
set_option maxRecDepth 65536 in
set_option maxHeartbeats 40000000 in
theorem rm3 (l : Launch) (Z : State) (a0 : Array Value) (hw : ∀ d ∈ tables_1, d.before a0 Z = true) (ws : List Jvm.Cond) (p0 : Int32) (w_AMBULATORY w_MATERNITY w_LABORATORY w_DENTAL w_OTHER w_MEDICATION w_HOSPITAL w_PHYSIOTHERAPY : Addr) (h0 : Heap) (n0 : Nat) (O : Old Z n0 h0) (W : Wd Z w_AMBULATORY w_MATERNITY w_LABORATORY w_DENTAL w_OTHER w_MEDICATION w_HOSPITAL w_PHYSIOTHERAPY) :
    MetFree l (⟨"com/example/deckwerk/deckwerk/TreatmentTypeIsCostSharedPinLaw", "expected", "(I)Z"⟩ : MethodName) (head1 (Jvm.Cond.code (⟨"com/example/deckwerk/deckwerk/TreatmentTypeIsCostSharedPinLaw", "expected", "(I)Z"⟩ : MethodName) method_3_code 1 (some .boolean) :: ws) ({ frames := 0, cells := 0, slots := 0, locals := 0 } : Room)) (fun a U => a = #[(.int p0)] ∧ Z.Warmed39 U.vm ∧ U.heap = h0) (fun _ _ _ _ _ => True) (fun _ U o U' => ∃ v L, o = .returned v ∧ Q3 p0 w_AMBULATORY w_MATERNITY w_LABORATORY w_DENTAL w_OTHER w_MEDICATION w_HOSPITAL w_PHYSIOTHERAPY h0 n0 v U'.heap L ∧ FrameEnd U o U' L ({ frames := 0, cells := 0, slots := 0, locals := 0 } : Room).cells ({ frames := 0, cells := 0, slots := 0, locals := 0 } : Room).slots) := by
  refine MetFree.of_bodySF (plainFor_of_name pn0) hisR ?_
  intro p e s m args below meth c s₁ Bd hml0 hP hK
  obtain ⟨rfl, hZ, hh⟩ := hP
  have hx := Bd.exec
  have hby := Bd.bytes
  have hml : c.maxLocals = 1 := hml0
  have hown : s.vm.findClass "com/example/deckwerk/deckwerk/TreatmentTypeIsCostSharedPinLaw" = some m.cls := findClass_of_methodNamed Bd.named
  have hnm := (name_of_methodNamed Bd.named Bd.method).1
  have hk := Bd.notSynchronized
  have X0 : Stand p l e ({ frames := 0, cells := 0, slots := 0, locals := 0 } : Room) s m #[(.int p0)] below meth c s₁ [] 0 0 := Stand.of_body Bd
  have e0 : s₁.heap = h0 := by rw [← hh, Bd.state]; rfl
  have N0 := Fr.nil n0
  show Gl p e below (Pos 0 0 (Q3 p0 w_AMBULATORY w_MATERNITY w_LABORATORY w_DENTAL w_OTHER w_MEDICATION w_HOSPITAL w_PHYSIOTHERAPY h0 n0) s) s₁ _
  refine Gl.cast (ef3 m p0) ?_
  refine Gl.by (g' := (mkF m 1 #[.val (.int p0)] [(.int p0)])) (fun _ k => XS.iloadN X0.here hx rfl (hb hby d3_0) rfl k) ?_
  refine Gl.by (g' := (mkF m 2 #[.val (.int p0)] [(.int (5 : Int32)), (.int p0)])) (fun _ k => XS.iconst X0.here hx rfl (hb hby d3_1) k) ?_
  by_cases hc1 : p0 = (5 : Int32)
  · refine Gl.by (g' := (mkF m 5 #[.val (.int p0)] [])) (fun _ k => XS.icmpNo X0.here hx rfl (hb hby d3_2) rfl (teq hc1).2 k) ?_
    refine Gl.by (g' := (mkF m 6 #[.val (.int p0)] [(.int (0 : Int32))])) (fun _ k => XS.iconst X0.here hx rfl (hb hby d3_5) k) ?_
    exact Gl.outN X0 hx hk (t := .boolean) Bd.returns (by simp) (hb hby d3_6) ⟨(congrArg (fun z => some (Value.int z)) (show nar .boolean (0 : Int32) = fn3 p0 w_AMBULATORY w_MATERNITY w_LABORATORY w_DENTAL w_OTHER w_MEDICATION w_HOSPITAL w_PHYSIOTHERAPY by unfold fn3; rw [if_pos hc1]; try rfl)), N0, e0⟩ (by decide) (by decide)
  · refine Gl.by (g' := (mkF m 7 #[.val (.int p0)] [])) (fun _ k => XS.icmpYes X0.here hx rfl (pc0 := 2) (pc' := 7) rfl (hb hby d3_2) rfl (feq hc1).2 (by decide) (by decide) k) ?_
    refine Gl.by (g' := (mkF m 8 #[.val (.int p0)] [(.int (1 : Int32))])) (fun _ k => XS.iconst X0.here hx rfl (hb hby d3_7) k) ?_
    exact Gl.outN X0 hx hk (t := .boolean) Bd.returns (by simp) (hb hby d3_8) ⟨(congrArg (fun z => some (Value.int z)) (show nar .boolean (1 : Int32) = fn3 p0 w_AMBULATORY w_MATERNITY w_LABORATORY w_DENTAL w_OTHER w_MEDICATION w_HOSPITAL w_PHYSIOTHERAPY by unfold fn3; rw [if_neg hc1]; try rfl)), N0, e0⟩ (by decide) (by decide)
theorem d2_0 : decode prog_12_method_4_code 0 = .ok (.aload_n 0, 1) := by decide +kernel
theorem d2_1 : decode prog_12_method_4_code 1 = .ok (.getstatic 19, 3) := by decide +kernel
theorem d2_4 : decode prog_12_method_4_code 4 = .ok (.if_acmp .eq 7, 3) := by decide +kernel
theorem d2_7 : decode prog_12_method_4_code 7 = .ok (.iconst 1, 1) := by decide +kernel
theorem d2_8 : decode prog_12_method_4_code 8 = .ok (.goto 4, 3) := by decide +kernel
theorem d2_11 : decode prog_12_method_4_code 11 = .ok (.iconst 0, 1) := by decide +kernel
theorem d2_12 : decode prog_12_method_4_code 12 = .ok (.ireturn, 1) := by decide +kernel
theorem pn1 : plainName "com/example/deckwerk/deckwerk/TreatmentType" = true := by first | (simp [plainName, overriddenIn]; done) | decide +kernel
theorem ef2 (m : MethodId) (x0 : Addr) : entryFrame m #[(.ref x0)] 1 = mkF m 0 #[.val (.ref x0)] [] := by first | (simp [entryFrame, mkF, argsToLocals, Value.category]; done) | rfl
def fn2 (a0 : Addr) (w_AMBULATORY w_MATERNITY w_LABORATORY w_DENTAL w_OTHER w_MEDICATION w_HOSPITAL w_PHYSIOTHERAPY : Addr) : Int32 := if a0 = w_MATERNITY then (0 : Int32) else (1 : Int32)
def Q2 (a0 : Addr) (w_AMBULATORY w_MATERNITY w_LABORATORY w_DENTAL w_OTHER w_MEDICATION w_HOSPITAL w_PHYSIOTHERAPY : Addr) (h0 : Heap) (n0 : Nat) (v : Option Value) (h : Heap) (L : List Loc) : Prop := v = some (.int (fn2 a0 w_AMBULATORY w_MATERNITY w_LABORATORY w_DENTAL w_OTHER w_MEDICATION w_HOSPITAL w_PHYSIOTHERAPY)) ∧ Fr n0 L ∧ h = h0
set_option maxRecDepth 65536 in
set_option maxHeartbeats 40000000 in
theorem rm2 (l : Launch) (Z : State) (a0 : Array Value) (hw : ∀ d ∈ tables_1, d.before a0 Z = true) (ws : List Jvm.Cond) (a0 : Addr) (w_AMBULATORY w_MATERNITY w_LABORATORY w_DENTAL w_OTHER w_MEDICATION w_HOSPITAL w_PHYSIOTHERAPY : Addr) (h0 : Heap) (n0 : Nat) (O : Old Z n0 h0) (W : Wd Z w_AMBULATORY w_MATERNITY w_LABORATORY w_DENTAL w_OTHER w_MEDICATION w_HOSPITAL w_PHYSIOTHERAPY) :
    MetFree l (⟨"com/example/deckwerk/deckwerk/TreatmentType", "isCostShared", "()Z"⟩ : MethodName) (head1 (Jvm.Cond.code (⟨"com/example/deckwerk/deckwerk/TreatmentType", "isCostShared", "()Z"⟩ : MethodName) prog_12_method_4_code 1 (some .boolean) :: ws) ({ frames := 0, cells := 0, slots := 0, locals := 0 } : Room)) (fun a U => a = #[(.ref a0)] ∧ Z.Warmed39 U.vm ∧ U.heap = h0) (fun _ _ _ _ _ => True) (fun _ U o U' => ∃ v L, o = .returned v ∧ Q2 a0 w_AMBULATORY w_MATERNITY w_LABORATORY w_DENTAL w_OTHER w_MEDICATION w_HOSPITAL w_PHYSIOTHERAPY h0 n0 v U'.heap L ∧ FrameEnd U o U' L ({ frames := 0, cells := 0, slots := 0, locals := 0 } : Room).cells ({ frames := 0, cells := 0, slots := 0, locals := 0 } : Room).slots) := by
  refine MetFree.of_bodySF (plainFor_of_name pn1) hisR ?_
  intro p e s m args below meth c s₁ Bd hml0 hP hK
  obtain ⟨rfl, hZ, hh⟩ := hP
  have hx := Bd.exec
  have hby := Bd.bytes
  have hml : c.maxLocals = 1 := hml0
  have hown : s.vm.findClass "com/example/deckwerk/deckwerk/TreatmentType" = some m.cls := findClass_of_methodNamed Bd.named
  have hnm := (name_of_methodNamed Bd.named Bd.method).1
  have hk := Bd.notSynchronized
  have X0 : Stand p l e ({ frames := 0, cells := 0, slots := 0, locals := 0 } : Room) s m #[(.ref a0)] below meth c s₁ [] 0 0 := Stand.of_body Bd
  have e0 : s₁.heap = h0 := by rw [← hh, Bd.state]; rfl
  have N0 := Fr.nil n0
  show Gl p e below (Pos 0 0 (Q2 a0 w_AMBULATORY w_MATERNITY w_LABORATORY w_DENTAL w_OTHER w_MEDICATION w_HOSPITAL w_PHYSIOTHERAPY h0 n0) s) s₁ _
  refine Gl.cast (ef2 m a0) ?_
  refine Gl.by (g' := (mkF m 1 #[.val (.ref a0)] [(.ref a0)])) (fun _ k => XS.aloadN X0.here hx rfl (hb hby d2_0) rfl rfl k) ?_
  obtain ⟨T1, X1, e1, st1⟩ := getS2 X0 hx hZ hown (host := "") (Or.inl (hw _ (List.mem_of_getElem? (i := 12) rfl))) Via.refl e0 (Sta.ext O.2 W.2.2.1) (g := (mkF m 1 #[.val (.ref a0)] [(.ref a0)])) rfl (hb hby d2_1)
  refine Gl.by (g' := (mkF m 4 #[.val (.ref a0)] [(.ref w_MATERNITY), (.ref a0)])) st1 ?_
  by_cases hc2 : a0 = w_MATERNITY
  · refine Gl.by (g' := (mkF m 11 #[.val (.ref a0)] [])) (fun _ k => Jvm.RoadKit.acmp (g := (mkF m 4 #[.val (.ref a0)] [(.ref w_MATERNITY), (.ref a0)])) X1 hx rfl rfl rfl (pc0 := 4) (pc' := 11) (same := true) rfl (hb hby d2_4) rfl (decide_eq_true (congrArg Value.ref hc2)) (by decide) (by decide) k) ?_
    refine Gl.by (g' := (mkF m 12 #[.val (.ref a0)] [(.int (0 : Int32))])) (fun _ k => XS.iconst X1.here hx rfl (hb hby d2_11) k) ?_
    exact Gl.outN X1 hx hk (t := .boolean) Bd.returns (by simp) (hb hby d2_12) ⟨(congrArg (fun z => some (Value.int z)) (show nar .boolean (0 : Int32) = fn2 a0 w_AMBULATORY w_MATERNITY w_LABORATORY w_DENTAL w_OTHER w_MEDICATION w_HOSPITAL w_PHYSIOTHERAPY by unfold fn2; rw [if_pos hc2]; try rfl)), N0, e1⟩ (by decide) (by decide)
  · refine Gl.by (g' := (mkF m 7 #[.val (.ref a0)] [])) (fun _ k => Jvm.RoadKit.acmp (g := (mkF m 4 #[.val (.ref a0)] [(.ref w_MATERNITY), (.ref a0)])) X1 hx rfl rfl rfl (pc0 := 4) (pc' := 7) (same := false) rfl (hb hby d2_4) rfl (decide_eq_false fun q => hc2 (Value.ref.inj q)) (by decide) (by decide) k) ?_
    refine Gl.by (g' := (mkF m 8 #[.val (.ref a0)] [(.int (1 : Int32))])) (fun _ k => XS.iconst X1.here hx rfl (hb hby d2_7) k) ?_
    refine Gl.by (g' := (mkF m 12 #[.val (.ref a0)] [(.int (1 : Int32))])) (fun _ k => XS.goto X1.here hx rfl (pc0 := 8) (pc' := 12) rfl (hb hby d2_8) (by decide) (by decide) k) ?_
    exact Gl.outN X1 hx hk (t := .boolean) Bd.returns (by simp) (hb hby d2_12) ⟨(congrArg (fun z => some (Value.int z)) (show nar .boolean (1 : Int32) = fn2 a0 w_AMBULATORY w_MATERNITY w_LABORATORY w_DENTAL w_OTHER w_MEDICATION w_HOSPITAL w_PHYSIOTHERAPY by unfold fn2; rw [if_neg hc2]; try rfl)), N0, e1⟩ (by decide) (by decide)
theorem d1_0 : decode method_2_code 0 = .ok (.iload_n 0, 1) := by decide +kernel
theorem d1_1 : decode method_2_code 1 = .ok (.ifCond .ne 7, 3) := by decide +kernel
theorem d1_4 : decode method_2_code 4 = .ok (.getstatic 7, 3) := by decide +kernel
theorem d1_7 : decode method_2_code 7 = .ok (.areturn, 1) := by decide +kernel
theorem d1_8 : decode method_2_code 8 = .ok (.iload_n 0, 1) := by decide +kernel
theorem d1_9 : decode method_2_code 9 = .ok (.iconst 1, 1) := by decide +kernel
theorem d1_10 : decode method_2_code 10 = .ok (.if_icmp .ne 7, 3) := by decide +kernel
theorem d1_13 : decode method_2_code 13 = .ok (.getstatic 13, 3) := by decide +kernel
theorem d1_16 : decode method_2_code 16 = .ok (.areturn, 1) := by decide +kernel
theorem d1_17 : decode method_2_code 17 = .ok (.iload_n 0, 1) := by decide +kernel
theorem d1_18 : decode method_2_code 18 = .ok (.iconst 2, 1) := by decide +kernel
theorem d1_19 : decode method_2_code 19 = .ok (.if_icmp .ne 7, 3) := by decide +kernel
theorem d1_22 : decode method_2_code 22 = .ok (.getstatic 16, 3) := by decide +kernel
theorem d1_25 : decode method_2_code 25 = .ok (.areturn, 1) := by decide +kernel
theorem d1_26 : decode method_2_code 26 = .ok (.iload_n 0, 1) := by decide +kernel
theorem d1_27 : decode method_2_code 27 = .ok (.iconst 3, 1) := by decide +kernel
theorem d1_28 : decode method_2_code 28 = .ok (.if_icmp .ne 7, 3) := by decide +kernel
theorem d1_31 : decode method_2_code 31 = .ok (.getstatic 19, 3) := by decide +kernel
theorem d1_34 : decode method_2_code 34 = .ok (.areturn, 1) := by decide +kernel
theorem d1_35 : decode method_2_code 35 = .ok (.iload_n 0, 1) := by decide +kernel
theorem d1_36 : decode method_2_code 36 = .ok (.iconst 4, 1) := by decide +kernel
theorem d1_37 : decode method_2_code 37 = .ok (.if_icmp .ne 7, 3) := by decide +kernel
theorem d1_40 : decode method_2_code 40 = .ok (.getstatic 22, 3) := by decide +kernel
theorem d1_43 : decode method_2_code 43 = .ok (.areturn, 1) := by decide +kernel
theorem d1_44 : decode method_2_code 44 = .ok (.iload_n 0, 1) := by decide +kernel
theorem d1_45 : decode method_2_code 45 = .ok (.iconst 5, 1) := by decide +kernel
theorem d1_46 : decode method_2_code 46 = .ok (.if_icmp .ne 7, 3) := by decide +kernel
theorem d1_49 : decode method_2_code 49 = .ok (.getstatic 25, 3) := by decide +kernel
theorem d1_52 : decode method_2_code 52 = .ok (.areturn, 1) := by decide +kernel
theorem d1_53 : decode method_2_code 53 = .ok (.iload_n 0, 1) := by decide +kernel
theorem d1_54 : decode method_2_code 54 = .ok (.bipush 6, 2) := by decide +kernel
theorem d1_56 : decode method_2_code 56 = .ok (.if_icmp .ne 7, 3) := by decide +kernel
theorem d1_59 : decode method_2_code 59 = .ok (.getstatic 28, 3) := by decide +kernel
theorem d1_62 : decode method_2_code 62 = .ok (.areturn, 1) := by decide +kernel
theorem d1_63 : decode method_2_code 63 = .ok (.getstatic 31, 3) := by decide +kernel
theorem d1_66 : decode method_2_code 66 = .ok (.areturn, 1) := by decide +kernel
theorem ef1 (m : MethodId) (x0 : Int32) : entryFrame m #[(.int x0)] 1 = mkF m 0 #[.val (.int x0)] [] := by first | (simp [entryFrame, mkF, argsToLocals, Value.category]; done) | rfl
def fn1 (p0 : Int32) (w_AMBULATORY w_MATERNITY w_LABORATORY w_DENTAL w_OTHER w_MEDICATION w_HOSPITAL w_PHYSIOTHERAPY : Addr) : Addr := if p0 = (0 : Int32) then w_AMBULATORY else if p0 = (1 : Int32) then w_HOSPITAL else if p0 = (2 : Int32) then w_MEDICATION else if p0 = (3 : Int32) then w_LABORATORY else if p0 = (4 : Int32) then w_PHYSIOTHERAPY else if p0 = (5 : Int32) then w_MATERNITY else if p0 = (6 : Int32) then w_DENTAL else w_OTHER
def Q1 (p0 : Int32) (w_AMBULATORY w_MATERNITY w_LABORATORY w_DENTAL w_OTHER w_MEDICATION w_HOSPITAL w_PHYSIOTHERAPY : Addr) (h0 : Heap) (n0 : Nat) (v : Option Value) (h : Heap) (L : List Loc) : Prop := v = some (.ref (fn1 p0 w_AMBULATORY w_MATERNITY w_LABORATORY w_DENTAL w_OTHER w_MEDICATION w_HOSPITAL w_PHYSIOTHERAPY)) ∧ Fr n0 L ∧ h = h0
set_option maxRecDepth 65536 in
set_option maxHeartbeats 40000000 in
theorem rm1 (l : Launch) (Z : State) (a0 : Array Value) (hw : ∀ d ∈ tables_1, d.before a0 Z = true) (ws : List Jvm.Cond) (p0 : Int32) (w_AMBULATORY w_MATERNITY w_LABORATORY w_DENTAL w_OTHER w_MEDICATION w_HOSPITAL w_PHYSIOTHERAPY : Addr) (h0 : Heap) (n0 : Nat) (O : Old Z n0 h0) (W : Wd Z w_AMBULATORY w_MATERNITY w_LABORATORY w_DENTAL w_OTHER w_MEDICATION w_HOSPITAL w_PHYSIOTHERAPY) :
    MetFree l (⟨"com/example/deckwerk/deckwerk/TreatmentTypeIsCostSharedPinLaw", "pick", "(I)Lcom/example/deckwerk/deckwerk/TreatmentType;"⟩ : MethodName) (head1 (Jvm.Cond.code (⟨"com/example/deckwerk/deckwerk/TreatmentTypeIsCostSharedPinLaw", "pick", "(I)Lcom/example/deckwerk/deckwerk/TreatmentType;"⟩ : MethodName) method_2_code 1 (some (.object "com/example/deckwerk/deckwerk/TreatmentType")) :: ws) ({ frames := 0, cells := 0, slots := 0, locals := 0 } : Room)) (fun a U => a = #[(.int p0)] ∧ Z.Warmed39 U.vm ∧ U.heap = h0) (fun _ _ _ _ _ => True) (fun _ U o U' => ∃ v L, o = .returned v ∧ Q1 p0 w_AMBULATORY w_MATERNITY w_LABORATORY w_DENTAL w_OTHER w_MEDICATION w_HOSPITAL w_PHYSIOTHERAPY h0 n0 v U'.heap L ∧ FrameEnd U o U' L ({ frames := 0, cells := 0, slots := 0, locals := 0 } : Room).cells ({ frames := 0, cells := 0, slots := 0, locals := 0 } : Room).slots) := by
  refine MetFree.of_bodySF (plainFor_of_name pn0) hisR ?_
  intro p e s m args below meth c s₁ Bd hml0 hP hK
  obtain ⟨rfl, hZ, hh⟩ := hP
  have hx := Bd.exec
  have hby := Bd.bytes
  have hml : c.maxLocals = 1 := hml0
  have hown : s.vm.findClass "com/example/deckwerk/deckwerk/TreatmentTypeIsCostSharedPinLaw" = some m.cls := findClass_of_methodNamed Bd.named
  have hnm := (name_of_methodNamed Bd.named Bd.method).1
  have hk := Bd.notSynchronized
  have X0 : Stand p l e ({ frames := 0, cells := 0, slots := 0, locals := 0 } : Room) s m #[(.int p0)] below meth c s₁ [] 0 0 := Stand.of_body Bd
  have e0 : s₁.heap = h0 := by rw [← hh, Bd.state]; rfl
  have N0 := Fr.nil n0
  show Gl p e below (Pos 0 0 (Q1 p0 w_AMBULATORY w_MATERNITY w_LABORATORY w_DENTAL w_OTHER w_MEDICATION w_HOSPITAL w_PHYSIOTHERAPY h0 n0) s) s₁ _
  refine Gl.cast (ef1 m p0) ?_
  refine Gl.by (g' := (mkF m 1 #[.val (.int p0)] [(.int p0)])) (fun _ k => XS.iloadN X0.here hx rfl (hb hby d1_0) rfl k) ?_
  by_cases hc1 : p0 = (0 : Int32)
  · refine Gl.by (g' := (mkF m 4 #[.val (.int p0)] [])) (fun _ k => XS.ifNo X0.here hx rfl (hb hby d1_1) rfl ((if0 _ _).trans (teq hc1).2) k) ?_
    obtain ⟨T2, X2, e2, st2⟩ := getS2 X0 hx hZ hown (host := "") (Or.inl (hw _ (List.mem_of_getElem? (i := 4) rfl))) Via.refl e0 (Sta.ext O.2 W.1) (g := (mkF m 4 #[.val (.int p0)] [])) rfl (hb hby d1_4)
    refine Gl.by (g' := (mkF m 7 #[.val (.int p0)] [(.ref w_AMBULATORY)])) st2 ?_
    exact Gl.outA X2 hx hk Bd.returns rfl rfl (hb hby d1_7) ⟨(congrArg (fun z => some (Value.ref z)) (show w_AMBULATORY = fn1 p0 w_AMBULATORY w_MATERNITY w_LABORATORY w_DENTAL w_OTHER w_MEDICATION w_HOSPITAL w_PHYSIOTHERAPY by unfold fn1; rw [if_pos hc1]; try rfl)), N0, e2⟩ (by decide) (by decide)
  · refine Gl.by (g' := (mkF m 8 #[.val (.int p0)] [])) (fun _ k => XS.ifYes X0.here hx rfl (pc0 := 1) (pc' := 8) rfl (hb hby d1_1) rfl ((if0 _ _).trans (feq hc1).2) (by decide) (by decide) k) ?_
    refine Gl.by (g' := (mkF m 9 #[.val (.int p0)] [(.int p0)])) (fun _ k => XS.iloadN X0.here hx rfl (hb hby d1_8) rfl k) ?_
    refine Gl.by (g' := (mkF m 10 #[.val (.int p0)] [(.int (1 : Int32)), (.int p0)])) (fun _ k => XS.iconst X0.here hx rfl (hb hby d1_9) k) ?_
    by_cases hc3 : p0 = (1 : Int32)
    · refine Gl.by (g' := (mkF m 13 #[.val (.int p0)] [])) (fun _ k => XS.icmpNo X0.here hx rfl (hb hby d1_10) rfl (teq hc3).2 k) ?_
      obtain ⟨T4, X4, e4, st4⟩ := getS2 X0 hx hZ hown (host := "") (Or.inl (hw _ (List.mem_of_getElem? (i := 25) rfl))) Via.refl e0 (Sta.ext O.2 W.2.2.2.2.2.2.2.2.2.2.2.2.1) (g := (mkF m 13 #[.val (.int p0)] [])) rfl (hb hby d1_13)
      refine Gl.by (g' := (mkF m 16 #[.val (.int p0)] [(.ref w_HOSPITAL)])) st4 ?_
      exact Gl.outA X4 hx hk Bd.returns rfl rfl (hb hby d1_16) ⟨(congrArg (fun z => some (Value.ref z)) (show w_HOSPITAL = fn1 p0 w_AMBULATORY w_MATERNITY w_LABORATORY w_DENTAL w_OTHER w_MEDICATION w_HOSPITAL w_PHYSIOTHERAPY by unfold fn1; rw [if_neg hc1, if_pos hc3]; try rfl)), N0, e4⟩ (by decide) (by decide)
    · refine Gl.by (g' := (mkF m 17 #[.val (.int p0)] [])) (fun _ k => XS.icmpYes X0.here hx rfl (pc0 := 10) (pc' := 17) rfl (hb hby d1_10) rfl (feq hc3).2 (by decide) (by decide) k) ?_
      refine Gl.by (g' := (mkF m 18 #[.val (.int p0)] [(.int p0)])) (fun _ k => XS.iloadN X0.here hx rfl (hb hby d1_17) rfl k) ?_
      refine Gl.by (g' := (mkF m 19 #[.val (.int p0)] [(.int (2 : Int32)), (.int p0)])) (fun _ k => XS.iconst X0.here hx rfl (hb hby d1_18) k) ?_
      by_cases hc5 : p0 = (2 : Int32)
      · refine Gl.by (g' := (mkF m 22 #[.val (.int p0)] [])) (fun _ k => XS.icmpNo X0.here hx rfl (hb hby d1_19) rfl (teq hc5).2 k) ?_
        obtain ⟨T6, X6, e6, st6⟩ := getS2 X0 hx hZ hown (host := "") (Or.inl (hw _ (List.mem_of_getElem? (i := 23) rfl))) Via.refl e0 (Sta.ext O.2 W.2.2.2.2.2.2.2.2.2.2.1) (g := (mkF m 22 #[.val (.int p0)] [])) rfl (hb hby d1_22)
        refine Gl.by (g' := (mkF m 25 #[.val (.int p0)] [(.ref w_MEDICATION)])) st6 ?_
        exact Gl.outA X6 hx hk Bd.returns rfl rfl (hb hby d1_25) ⟨(congrArg (fun z => some (Value.ref z)) (show w_MEDICATION = fn1 p0 w_AMBULATORY w_MATERNITY w_LABORATORY w_DENTAL w_OTHER w_MEDICATION w_HOSPITAL w_PHYSIOTHERAPY by unfold fn1; rw [if_neg hc1, if_neg hc3, if_pos hc5]; try rfl)), N0, e6⟩ (by decide) (by decide)
      · refine Gl.by (g' := (mkF m 26 #[.val (.int p0)] [])) (fun _ k => XS.icmpYes X0.here hx rfl (pc0 := 19) (pc' := 26) rfl (hb hby d1_19) rfl (feq hc5).2 (by decide) (by decide) k) ?_
        refine Gl.by (g' := (mkF m 27 #[.val (.int p0)] [(.int p0)])) (fun _ k => XS.iloadN X0.here hx rfl (hb hby d1_26) rfl k) ?_
        refine Gl.by (g' := (mkF m 28 #[.val (.int p0)] [(.int (3 : Int32)), (.int p0)])) (fun _ k => XS.iconst X0.here hx rfl (hb hby d1_27) k) ?_
        by_cases hc7 : p0 = (3 : Int32)
        · refine Gl.by (g' := (mkF m 31 #[.val (.int p0)] [])) (fun _ k => XS.icmpNo X0.here hx rfl (hb hby d1_28) rfl (teq hc7).2 k) ?_
          obtain ⟨T8, X8, e8, st8⟩ := getS2 X0 hx hZ hown (host := "") (Or.inl (hw _ (List.mem_of_getElem? (i := 17) rfl))) Via.refl e0 (Sta.ext O.2 W.2.2.2.2.1) (g := (mkF m 31 #[.val (.int p0)] [])) rfl (hb hby d1_31)
          refine Gl.by (g' := (mkF m 34 #[.val (.int p0)] [(.ref w_LABORATORY)])) st8 ?_
          exact Gl.outA X8 hx hk Bd.returns rfl rfl (hb hby d1_34) ⟨(congrArg (fun z => some (Value.ref z)) (show w_LABORATORY = fn1 p0 w_AMBULATORY w_MATERNITY w_LABORATORY w_DENTAL w_OTHER w_MEDICATION w_HOSPITAL w_PHYSIOTHERAPY by unfold fn1; rw [if_neg hc1, if_neg hc3, if_neg hc5, if_pos hc7]; try rfl)), N0, e8⟩ (by decide) (by decide)
        · refine Gl.by (g' := (mkF m 35 #[.val (.int p0)] [])) (fun _ k => XS.icmpYes X0.here hx rfl (pc0 := 28) (pc' := 35) rfl (hb hby d1_28) rfl (feq hc7).2 (by decide) (by decide) k) ?_
          refine Gl.by (g' := (mkF m 36 #[.val (.int p0)] [(.int p0)])) (fun _ k => XS.iloadN X0.here hx rfl (hb hby d1_35) rfl k) ?_
          refine Gl.by (g' := (mkF m 37 #[.val (.int p0)] [(.int (4 : Int32)), (.int p0)])) (fun _ k => XS.iconst X0.here hx rfl (hb hby d1_36) k) ?_
          by_cases hc9 : p0 = (4 : Int32)
          · refine Gl.by (g' := (mkF m 40 #[.val (.int p0)] [])) (fun _ k => XS.icmpNo X0.here hx rfl (hb hby d1_37) rfl (teq hc9).2 k) ?_
            obtain ⟨T10, X10, e10, st10⟩ := getS2 X0 hx hZ hown (host := "") (Or.inl (hw _ (List.mem_of_getElem? (i := 27) rfl))) Via.refl e0 (Sta.ext O.2 W.2.2.2.2.2.2.2.2.2.2.2.2.2.2.1) (g := (mkF m 40 #[.val (.int p0)] [])) rfl (hb hby d1_40)
            refine Gl.by (g' := (mkF m 43 #[.val (.int p0)] [(.ref w_PHYSIOTHERAPY)])) st10 ?_
            exact Gl.outA X10 hx hk Bd.returns rfl rfl (hb hby d1_43) ⟨(congrArg (fun z => some (Value.ref z)) (show w_PHYSIOTHERAPY = fn1 p0 w_AMBULATORY w_MATERNITY w_LABORATORY w_DENTAL w_OTHER w_MEDICATION w_HOSPITAL w_PHYSIOTHERAPY by unfold fn1; rw [if_neg hc1, if_neg hc3, if_neg hc5, if_neg hc7, if_pos hc9]; try rfl)), N0, e10⟩ (by decide) (by decide)
          · refine Gl.by (g' := (mkF m 44 #[.val (.int p0)] [])) (fun _ k => XS.icmpYes X0.here hx rfl (pc0 := 37) (pc' := 44) rfl (hb hby d1_37) rfl (feq hc9).2 (by decide) (by decide) k) ?_
            refine Gl.by (g' := (mkF m 45 #[.val (.int p0)] [(.int p0)])) (fun _ k => XS.iloadN X0.here hx rfl (hb hby d1_44) rfl k) ?_
            refine Gl.by (g' := (mkF m 46 #[.val (.int p0)] [(.int (5 : Int32)), (.int p0)])) (fun _ k => XS.iconst X0.here hx rfl (hb hby d1_45) k) ?_
            by_cases hc11 : p0 = (5 : Int32)
            · refine Gl.by (g' := (mkF m 49 #[.val (.int p0)] [])) (fun _ k => XS.icmpNo X0.here hx rfl (hb hby d1_46) rfl (teq hc11).2 k) ?_
              obtain ⟨T12, X12, e12, st12⟩ := getS2 X0 hx hZ hown (host := "") (Or.inl (hw _ (List.mem_of_getElem? (i := 29) rfl))) Via.refl e0 (Sta.ext O.2 W.2.2.1) (g := (mkF m 49 #[.val (.int p0)] [])) rfl (hb hby d1_49)
              refine Gl.by (g' := (mkF m 52 #[.val (.int p0)] [(.ref w_MATERNITY)])) st12 ?_
              exact Gl.outA X12 hx hk Bd.returns rfl rfl (hb hby d1_52) ⟨(congrArg (fun z => some (Value.ref z)) (show w_MATERNITY = fn1 p0 w_AMBULATORY w_MATERNITY w_LABORATORY w_DENTAL w_OTHER w_MEDICATION w_HOSPITAL w_PHYSIOTHERAPY by unfold fn1; rw [if_neg hc1, if_neg hc3, if_neg hc5, if_neg hc7, if_neg hc9, if_pos hc11]; try rfl)), N0, e12⟩ (by decide) (by decide)
            · refine Gl.by (g' := (mkF m 53 #[.val (.int p0)] [])) (fun _ k => XS.icmpYes X0.here hx rfl (pc0 := 46) (pc' := 53) rfl (hb hby d1_46) rfl (feq hc11).2 (by decide) (by decide) k) ?_
              refine Gl.by (g' := (mkF m 54 #[.val (.int p0)] [(.int p0)])) (fun _ k => XS.iloadN X0.here hx rfl (hb hby d1_53) rfl k) ?_
              refine Gl.by (g' := (mkF m 56 #[.val (.int p0)] [(.int (6 : Int32)), (.int p0)])) (fun _ k => XS.bipush X0.here hx rfl (hb hby d1_54) k) ?_
              by_cases hc13 : p0 = (6 : Int32)
              · refine Gl.by (g' := (mkF m 59 #[.val (.int p0)] [])) (fun _ k => XS.icmpNo X0.here hx rfl (hb hby d1_56) rfl (teq hc13).2 k) ?_
                obtain ⟨T14, X14, e14, st14⟩ := getS2 X0 hx hZ hown (host := "") (Or.inl (hw _ (List.mem_of_getElem? (i := 19) rfl))) Via.refl e0 (Sta.ext O.2 W.2.2.2.2.2.2.1) (g := (mkF m 59 #[.val (.int p0)] [])) rfl (hb hby d1_59)
                refine Gl.by (g' := (mkF m 62 #[.val (.int p0)] [(.ref w_DENTAL)])) st14 ?_
                exact Gl.outA X14 hx hk Bd.returns rfl rfl (hb hby d1_62) ⟨(congrArg (fun z => some (Value.ref z)) (show w_DENTAL = fn1 p0 w_AMBULATORY w_MATERNITY w_LABORATORY w_DENTAL w_OTHER w_MEDICATION w_HOSPITAL w_PHYSIOTHERAPY by unfold fn1; rw [if_neg hc1, if_neg hc3, if_neg hc5, if_neg hc7, if_neg hc9, if_neg hc11, if_pos hc13]; try rfl)), N0, e14⟩ (by decide) (by decide)
              · refine Gl.by (g' := (mkF m 63 #[.val (.int p0)] [])) (fun _ k => XS.icmpYes X0.here hx rfl (pc0 := 56) (pc' := 63) rfl (hb hby d1_56) rfl (feq hc13).2 (by decide) (by decide) k) ?_
                obtain ⟨T15, X15, e15, st15⟩ := getS2 X0 hx hZ hown (host := "") (Or.inl (hw _ (List.mem_of_getElem? (i := 21) rfl))) Via.refl e0 (Sta.ext O.2 W.2.2.2.2.2.2.2.2.1) (g := (mkF m 63 #[.val (.int p0)] [])) rfl (hb hby d1_63)
                refine Gl.by (g' := (mkF m 66 #[.val (.int p0)] [(.ref w_OTHER)])) st15 ?_
                exact Gl.outA X15 hx hk Bd.returns rfl rfl (hb hby d1_66) ⟨(congrArg (fun z => some (Value.ref z)) (show w_OTHER = fn1 p0 w_AMBULATORY w_MATERNITY w_LABORATORY w_DENTAL w_OTHER w_MEDICATION w_HOSPITAL w_PHYSIOTHERAPY by unfold fn1; rw [if_neg hc1, if_neg hc3, if_neg hc5, if_neg hc7, if_neg hc9, if_neg hc11, if_neg hc13]; try rfl)), N0, e15⟩ (by decide) (by decide)
theorem fn1_exa (Z : State) (p0 : Int32) (w_AMBULATORY w_MATERNITY w_LABORATORY w_DENTAL w_OTHER w_MEDICATION w_HOSPITAL w_PHYSIOTHERAPY : Addr) (W : Wd Z w_AMBULATORY w_MATERNITY w_LABORATORY w_DENTAL w_OTHER w_MEDICATION w_HOSPITAL w_PHYSIOTHERAPY) : Exa Z Z.heap (fn1 p0 w_AMBULATORY w_MATERNITY w_LABORATORY w_DENTAL w_OTHER w_MEDICATION w_HOSPITAL w_PHYSIOTHERAPY) "com/example/deckwerk/deckwerk/TreatmentType" := by
  unfold fn1
  repeat' split
  all_goals first | exact W.2.1 | exact W.2.2.2.1 | exact W.2.2.2.2.2.1 | exact W.2.2.2.2.2.2.2.1 | exact W.2.2.2.2.2.2.2.2.2.1 | exact W.2.2.2.2.2.2.2.2.2.2.2.1 | exact W.2.2.2.2.2.2.2.2.2.2.2.2.2.1 | exact W.2.2.2.2.2.2.2.2.2.2.2.2.2.2.2.1
theorem pd0 : parseMethodDescriptor "(I)Lcom/example/deckwerk/deckwerk/TreatmentType;" = some ⟨[.int], some (.object "com/example/deckwerk/deckwerk/TreatmentType")⟩ := by decide +kernel
theorem pd1 : parseMethodDescriptor "()Z" = some ⟨[], some .boolean⟩ := by decide +kernel
theorem pd2 : parseMethodDescriptor "(I)Z" = some ⟨[.int], some .boolean⟩ := by decide +kernel
theorem ef0 (m : MethodId) (x0 : Int32) : entryFrame m #[(.int x0)] maxLocals = mkF m 0 #[.val (.int x0), .unset, .unset] [] := by first | (simp [entryFrame, mkF, argsToLocals, Value.category, maxLocals]; done) | rfl
def fn0 (p0 : Int32) (w_AMBULATORY w_MATERNITY w_LABORATORY w_DENTAL w_OTHER w_MEDICATION w_HOSPITAL w_PHYSIOTHERAPY : Addr) : Int32 := if (fn2 (fn1 (p0 &&& (7 : Int32)) w_AMBULATORY w_MATERNITY w_LABORATORY w_DENTAL w_OTHER w_MEDICATION w_HOSPITAL w_PHYSIOTHERAPY) w_AMBULATORY w_MATERNITY w_LABORATORY w_DENTAL w_OTHER w_MEDICATION w_HOSPITAL w_PHYSIOTHERAPY) = (fn3 (p0 &&& (7 : Int32)) w_AMBULATORY w_MATERNITY w_LABORATORY w_DENTAL w_OTHER w_MEDICATION w_HOSPITAL w_PHYSIOTHERAPY) then (1 : Int32) else (0 : Int32)
def Q0 (p0 : Int32) (w_AMBULATORY w_MATERNITY w_LABORATORY w_DENTAL w_OTHER w_MEDICATION w_HOSPITAL w_PHYSIOTHERAPY : Addr) (h0 : Heap) (n0 : Nat) (v : Option Value) (h : Heap) (L : List Loc) : Prop := v = some (.int (fn0 p0 w_AMBULATORY w_MATERNITY w_LABORATORY w_DENTAL w_OTHER w_MEDICATION w_HOSPITAL w_PHYSIOTHERAPY)) ∧ Fr n0 L ∧ h = h0
set_option maxRecDepth 65536 in
set_option maxHeartbeats 40000000 in
theorem rm0 (l : Launch) (Z : State) (a0 : Array Value) (hw : ∀ d ∈ tables_1, d.before a0 Z = true) (ws : List Jvm.Cond) (p0 : Int32) (w_AMBULATORY w_MATERNITY w_LABORATORY w_DENTAL w_OTHER w_MEDICATION w_HOSPITAL w_PHYSIOTHERAPY : Addr) (h0 : Heap) (n0 : Nat) (O : Old Z n0 h0) (W : Wd Z w_AMBULATORY w_MATERNITY w_LABORATORY w_DENTAL w_OTHER w_MEDICATION w_HOSPITAL w_PHYSIOTHERAPY) :
    MetFree l x (head1 (Jvm.Cond.code x code maxLocals ret :: ws) room_1) (fun a U => a = #[(.int p0)] ∧ Z.Warmed39 U.vm ∧ U.heap = h0) (fun _ _ _ _ _ => True) (fun _ U o U' => ∃ v L, o = .returned v ∧ Q0 p0 w_AMBULATORY w_MATERNITY w_LABORATORY w_DENTAL w_OTHER w_MEDICATION w_HOSPITAL w_PHYSIOTHERAPY h0 n0 v U'.heap L ∧ FrameEnd U o U' L 0 0) := by
  refine MetFree.of_bodySF (plainFor_of_name pn0) hisR ?_
  intro p e s m args below meth c s₁ Bd hml0 hP hK
  obtain ⟨rfl, hZ, hh⟩ := hP
  have hx := Bd.exec
  have hby := Bd.bytes
  have hml : c.maxLocals = 3 := hml0
  have hown : s.vm.findClass "com/example/deckwerk/deckwerk/TreatmentTypeIsCostSharedPinLaw" = some m.cls := findClass_of_methodNamed Bd.named
  have hnm := (name_of_methodNamed Bd.named Bd.method).1
  have hk := Bd.notSynchronized
  have X0 : Stand p l e room_1 s m #[(.int p0)] below meth c s₁ [] 0 0 := Stand.of_body Bd
  have e0 : s₁.heap = h0 := by rw [← hh, Bd.state]; rfl
  have N0 := Fr.nil n0
  show Gl p e below (Pos 0 0 (Q0 p0 w_AMBULATORY w_MATERNITY w_LABORATORY w_DENTAL w_OTHER w_MEDICATION w_HOSPITAL w_PHYSIOTHERAPY h0 n0) s) s₁ _
  refine Gl.cast (ef0 m p0) ?_
  refine Gl.by (g' := (mkF m 1 #[.val (.int p0), .unset, .unset] [(.int p0)])) (fun _ k => XS.iloadN X0.here hx rfl (hb hby at_0) rfl k) ?_
  refine Gl.by (g' := (mkF m 3 #[.val (.int p0), .unset, .unset] [(.int (7 : Int32)), (.int p0)])) (fun _ k => XS.bipush X0.here hx rfl (hb hby at_1) k) ?_
  refine Gl.by (g' := (mkF m 4 #[.val (.int p0), .unset, .unset] [(.int (p0 &&& (7 : Int32)))])) (fun _ k => XS.iand X0.here hx rfl (hb hby at_3) rfl k) ?_
  refine Gl.by (g' := (mkF m 5 #[.val (.int p0), .val (.int (p0 &&& (7 : Int32))), .unset] [])) (fun _ k => XS.istoreN X0.here hx rfl (hb hby at_4) rfl (l' := #[.val (.int p0), .val (.int (p0 &&& (7 : Int32))), .unset]) rfl k) ?_
  refine Gl.by (g' := (mkF m 6 #[.val (.int p0), .val (.int (p0 &&& (7 : Int32))), .unset] [(.int (p0 &&& (7 : Int32)))])) (fun _ k => XS.iloadN X0.here hx rfl (hb hby at_5) rfl k) ?_
  obtain ⟨_, _, ⟨T1, L1, k1, n1⟩, -, X1, ⟨Lc1, hQ1, l1, y1, z1⟩, st1⟩ := Jvm.LawKit.callS X0 hx (y := (⟨"com/example/deckwerk/deckwerk/TreatmentTypeIsCostSharedPinLaw", "pick", "(I)Lcom/example/deckwerk/deckwerk/TreatmentType;"⟩ : MethodName)) hown (mvT hZ (hw _ (List.mem_of_getElem? (i := 0) rfl))) (mvT hZ (hw _ (List.mem_of_getElem? (i := 1) rfl))) (mvT hZ (hw _ (List.mem_of_getElem? (i := 2) rfl))) (mvT hZ (hw _ (List.mem_of_getElem? (i := 3) rfl))) (by decide) (backOf (W := 0) (rm1 l Z a0 hw [] (p0 &&& (7 : Int32)) w_AMBULATORY w_MATERNITY w_LABORATORY w_DENTAL w_OTHER w_MEDICATION w_HOSPITAL w_PHYSIOTHERAPY h0 n0 O W) hZ (hw _ (List.mem_of_getElem? (i := 3) rfl)) (hw _ (List.mem_of_getElem? (i := 2) rfl)) (by decide) (by decide)) (g := (mkF m 6 #[.val (.int p0), .val (.int (p0 &&& (7 : Int32))), .unset] [(.int (p0 &&& (7 : Int32)))])) rfl (by rw [hml]; rfl) (argsL := [(.int (p0 &&& (7 : Int32)))]) (rest := []) (lenOf pd0 rfl) rfl (by show 2 * 0 + _ ≤ _; exact Nat.le_of_eq rfl) (hb hby at_6) (fun _ _ => ⟨rfl, e0, (by decide : 0 + 0 ≤ _), (by decide : 0 + 0 ≤ _)⟩)
  dsimp only [Pt.U, Pt.locs, Pt.cells, Pt.slots] at X1 l1 y1 z1 st1 hQ1
  subst l1 y1 z1
  obtain ⟨rfl, N1q, e1⟩ := hQ1
  have N1 := Fr.app N0 N1q
  refine Gl.by (g' := (mkF m 9 #[.val (.int p0), .val (.int (p0 &&& (7 : Int32))), .unset] [(.ref (fn1 (p0 &&& (7 : Int32)) w_AMBULATORY w_MATERNITY w_LABORATORY w_DENTAL w_OTHER w_MEDICATION w_HOSPITAL w_PHYSIOTHERAPY))])) st1 ?_
  refine Gl.by (g' := (mkF m 10 #[.val (.int p0), .val (.int (p0 &&& (7 : Int32))), .val (.ref (fn1 (p0 &&& (7 : Int32)) w_AMBULATORY w_MATERNITY w_LABORATORY w_DENTAL w_OTHER w_MEDICATION w_HOSPITAL w_PHYSIOTHERAPY))] [])) (fun _ k => XS.astoreN X1.here hx rfl (hb hby at_9) rfl rfl (l' := #[.val (.int p0), .val (.int (p0 &&& (7 : Int32))), .val (.ref (fn1 (p0 &&& (7 : Int32)) w_AMBULATORY w_MATERNITY w_LABORATORY w_DENTAL w_OTHER w_MEDICATION w_HOSPITAL w_PHYSIOTHERAPY))]) rfl k) ?_
  refine Gl.by (g' := (mkF m 11 #[.val (.int p0), .val (.int (p0 &&& (7 : Int32))), .val (.ref (fn1 (p0 &&& (7 : Int32)) w_AMBULATORY w_MATERNITY w_LABORATORY w_DENTAL w_OTHER w_MEDICATION w_HOSPITAL w_PHYSIOTHERAPY))] [(.ref (fn1 (p0 &&& (7 : Int32)) w_AMBULATORY w_MATERNITY w_LABORATORY w_DENTAL w_OTHER w_MEDICATION w_HOSPITAL w_PHYSIOTHERAPY))])) (fun _ k => XS.aloadN X1.here hx rfl (hb hby at_10) rfl rfl k) ?_
  obtain ⟨cq2, kq2, q2a, q2b, q2c⟩ := isOf hZ e1 (Exa.ext O.2 (fn1_exa Z (p0 &&& (7 : Int32)) w_AMBULATORY w_MATERNITY w_LABORATORY w_DENTAL w_OTHER w_MEDICATION w_HOSPITAL w_PHYSIOTHERAPY W))
  obtain ⟨_, _, ⟨T2, L2, k2, n2⟩, -, X2, ⟨Lc2, hQ2, l2, y2, z2⟩, st2⟩ := X1.virtualBack hx (y := (⟨"com/example/deckwerk/deckwerk/TreatmentType", "isCostShared", "()Z"⟩ : MethodName)) (z := (⟨"com/example/deckwerk/deckwerk/TreatmentType", "isCostShared", "()Z"⟩ : MethodName)) hown (mvT hZ (hw _ (List.mem_of_getElem? (i := 7) rfl))) (mvT hZ (hw _ (List.mem_of_getElem? (i := 8) rfl))) (notFace_of_selects (args := #[]) (mvT hZ (hw _ (List.mem_of_getElem? (i := 10) rfl)))) (mvT hZ (hw _ (List.mem_of_getElem? (i := 10) rfl))) (mvT hZ (hw _ (List.mem_of_getElem? (i := 9) rfl))) (by decide) (backOf (W := 0) (rm2 l Z a0 hw [] (fn1 (p0 &&& (7 : Int32)) w_AMBULATORY w_MATERNITY w_LABORATORY w_DENTAL w_OTHER w_MEDICATION w_HOSPITAL w_PHYSIOTHERAPY) w_AMBULATORY w_MATERNITY w_LABORATORY w_DENTAL w_OTHER w_MEDICATION w_HOSPITAL w_PHYSIOTHERAPY h0 n0 O W) hZ (hw _ (List.mem_of_getElem? (i := 11) rfl)) (hw _ (List.mem_of_getElem? (i := 5) rfl)) (by decide) (by decide)) q2a q2c (g := (mkF m 11 #[.val (.int p0), .val (.int (p0 &&& (7 : Int32))), .val (.ref (fn1 (p0 &&& (7 : Int32)) w_AMBULATORY w_MATERNITY w_LABORATORY w_DENTAL w_OTHER w_MEDICATION w_HOSPITAL w_PHYSIOTHERAPY))] [(.ref (fn1 (p0 &&& (7 : Int32)) w_AMBULATORY w_MATERNITY w_LABORATORY w_DENTAL w_OTHER w_MEDICATION w_HOSPITAL w_PHYSIOTHERAPY))])) rfl (by rw [hml]; rfl) (Steps.refl _) (argsL := []) (rest := []) (lenOf pd1 rfl) rfl (by show 2 * 0 + _ ≤ _; exact Nat.le_of_eq rfl) (hb hby at_11) (fun _ _ => ⟨rfl, e1, (by decide : 0 + 0 ≤ _), (by decide : 0 + 0 ≤ _)⟩)
  dsimp only [Pt.U, Pt.locs, Pt.cells, Pt.slots] at X2 l2 y2 z2 st2 hQ2
  subst l2 y2 z2
  obtain ⟨rfl, N2q, e2⟩ := hQ2
  have N2 := Fr.app N1 N2q
  refine Gl.by (g' := (mkF m 14 #[.val (.int p0), .val (.int (p0 &&& (7 : Int32))), .val (.ref (fn1 (p0 &&& (7 : Int32)) w_AMBULATORY w_MATERNITY w_LABORATORY w_DENTAL w_OTHER w_MEDICATION w_HOSPITAL w_PHYSIOTHERAPY))] [(.int (fn2 (fn1 (p0 &&& (7 : Int32)) w_AMBULATORY w_MATERNITY w_LABORATORY w_DENTAL w_OTHER w_MEDICATION w_HOSPITAL w_PHYSIOTHERAPY) w_AMBULATORY w_MATERNITY w_LABORATORY w_DENTAL w_OTHER w_MEDICATION w_HOSPITAL w_PHYSIOTHERAPY))])) (fun _ k => st2.trans k) ?_
  refine Gl.by (g' := (mkF m 15 #[.val (.int p0), .val (.int (p0 &&& (7 : Int32))), .val (.ref (fn1 (p0 &&& (7 : Int32)) w_AMBULATORY w_MATERNITY w_LABORATORY w_DENTAL w_OTHER w_MEDICATION w_HOSPITAL w_PHYSIOTHERAPY))] [(.int (p0 &&& (7 : Int32))), (.int (fn2 (fn1 (p0 &&& (7 : Int32)) w_AMBULATORY w_MATERNITY w_LABORATORY w_DENTAL w_OTHER w_MEDICATION w_HOSPITAL w_PHYSIOTHERAPY) w_AMBULATORY w_MATERNITY w_LABORATORY w_DENTAL w_OTHER w_MEDICATION w_HOSPITAL w_PHYSIOTHERAPY))])) (fun _ k => XS.iloadN X2.here hx rfl (hb hby at_14) rfl k) ?_
  obtain ⟨_, _, ⟨T3, L3, k3, n3⟩, -, X3, ⟨Lc3, hQ3, l3, y3, z3⟩, st3⟩ := Jvm.LawKit.callS X2 hx (y := (⟨"com/example/deckwerk/deckwerk/TreatmentTypeIsCostSharedPinLaw", "expected", "(I)Z"⟩ : MethodName)) hown (mvT hZ (hw _ (List.mem_of_getElem? (i := 14) rfl))) (mvT hZ (hw _ (List.mem_of_getElem? (i := 15) rfl))) (mvT hZ (hw _ (List.mem_of_getElem? (i := 2) rfl))) (mvT hZ (hw _ (List.mem_of_getElem? (i := 16) rfl))) (by decide) (backOf (W := 1) (rm3 l Z a0 hw [] (p0 &&& (7 : Int32)) w_AMBULATORY w_MATERNITY w_LABORATORY w_DENTAL w_OTHER w_MEDICATION w_HOSPITAL w_PHYSIOTHERAPY h0 n0 O W) hZ (hw _ (List.mem_of_getElem? (i := 16) rfl)) (hw _ (List.mem_of_getElem? (i := 2) rfl)) (by decide) (by decide)) (g := (mkF m 15 #[.val (.int p0), .val (.int (p0 &&& (7 : Int32))), .val (.ref (fn1 (p0 &&& (7 : Int32)) w_AMBULATORY w_MATERNITY w_LABORATORY w_DENTAL w_OTHER w_MEDICATION w_HOSPITAL w_PHYSIOTHERAPY))] [(.int (p0 &&& (7 : Int32))), (.int (fn2 (fn1 (p0 &&& (7 : Int32)) w_AMBULATORY w_MATERNITY w_LABORATORY w_DENTAL w_OTHER w_MEDICATION w_HOSPITAL w_PHYSIOTHERAPY) w_AMBULATORY w_MATERNITY w_LABORATORY w_DENTAL w_OTHER w_MEDICATION w_HOSPITAL w_PHYSIOTHERAPY))])) rfl (by rw [hml]; rfl) (argsL := [(.int (p0 &&& (7 : Int32)))]) (rest := [(.int (fn2 (fn1 (p0 &&& (7 : Int32)) w_AMBULATORY w_MATERNITY w_LABORATORY w_DENTAL w_OTHER w_MEDICATION w_HOSPITAL w_PHYSIOTHERAPY) w_AMBULATORY w_MATERNITY w_LABORATORY w_DENTAL w_OTHER w_MEDICATION w_HOSPITAL w_PHYSIOTHERAPY))]) (lenOf pd2 rfl) rfl (by show 2 * 0 + _ ≤ _; exact Nat.le_of_eq rfl) (hb hby at_15) (fun _ _ => ⟨rfl, e2, (by decide : 0 + 0 ≤ _), (by decide : 0 + 0 ≤ _)⟩)
  dsimp only [Pt.U, Pt.locs, Pt.cells, Pt.slots] at X3 l3 y3 z3 st3 hQ3
  subst l3 y3 z3
  obtain ⟨rfl, N3q, e3⟩ := hQ3
  have N3 := Fr.app N2 N3q
  refine Gl.by (g' := (mkF m 18 #[.val (.int p0), .val (.int (p0 &&& (7 : Int32))), .val (.ref (fn1 (p0 &&& (7 : Int32)) w_AMBULATORY w_MATERNITY w_LABORATORY w_DENTAL w_OTHER w_MEDICATION w_HOSPITAL w_PHYSIOTHERAPY))] [(.int (fn3 (p0 &&& (7 : Int32)) w_AMBULATORY w_MATERNITY w_LABORATORY w_DENTAL w_OTHER w_MEDICATION w_HOSPITAL w_PHYSIOTHERAPY)), (.int (fn2 (fn1 (p0 &&& (7 : Int32)) w_AMBULATORY w_MATERNITY w_LABORATORY w_DENTAL w_OTHER w_MEDICATION w_HOSPITAL w_PHYSIOTHERAPY) w_AMBULATORY w_MATERNITY w_LABORATORY w_DENTAL w_OTHER w_MEDICATION w_HOSPITAL w_PHYSIOTHERAPY))])) st3 ?_
  by_cases hc4 : (fn2 (fn1 (p0 &&& (7 : Int32)) w_AMBULATORY w_MATERNITY w_LABORATORY w_DENTAL w_OTHER w_MEDICATION w_HOSPITAL w_PHYSIOTHERAPY) w_AMBULATORY w_MATERNITY w_LABORATORY w_DENTAL w_OTHER w_MEDICATION w_HOSPITAL w_PHYSIOTHERAPY) = (fn3 (p0 &&& (7 : Int32)) w_AMBULATORY w_MATERNITY w_LABORATORY w_DENTAL w_OTHER w_MEDICATION w_HOSPITAL w_PHYSIOTHERAPY)
  · refine Gl.by (g' := (mkF m 21 #[.val (.int p0), .val (.int (p0 &&& (7 : Int32))), .val (.ref (fn1 (p0 &&& (7 : Int32)) w_AMBULATORY w_MATERNITY w_LABORATORY w_DENTAL w_OTHER w_MEDICATION w_HOSPITAL w_PHYSIOTHERAPY))] [])) (fun _ k => XS.icmpNo X3.here hx rfl (hb hby at_18) rfl (teq hc4).2 k) ?_
    refine Gl.by (g' := (mkF m 22 #[.val (.int p0), .val (.int (p0 &&& (7 : Int32))), .val (.ref (fn1 (p0 &&& (7 : Int32)) w_AMBULATORY w_MATERNITY w_LABORATORY w_DENTAL w_OTHER w_MEDICATION w_HOSPITAL w_PHYSIOTHERAPY))] [(.int (1 : Int32))])) (fun _ k => XS.iconst X3.here hx rfl (hb hby at_21) k) ?_
    refine Gl.by (g' := (mkF m 26 #[.val (.int p0), .val (.int (p0 &&& (7 : Int32))), .val (.ref (fn1 (p0 &&& (7 : Int32)) w_AMBULATORY w_MATERNITY w_LABORATORY w_DENTAL w_OTHER w_MEDICATION w_HOSPITAL w_PHYSIOTHERAPY))] [(.int (1 : Int32))])) (fun _ k => XS.goto X3.here hx rfl (pc0 := 22) (pc' := 26) rfl (hb hby at_22) (by decide) (by decide) k) ?_
    exact Gl.outN X3 hx hk (t := .boolean) Bd.returns (by simp) (hb hby at_26) ⟨(congrArg (fun z => some (Value.int z)) (show nar .boolean (1 : Int32) = fn0 p0 w_AMBULATORY w_MATERNITY w_LABORATORY w_DENTAL w_OTHER w_MEDICATION w_HOSPITAL w_PHYSIOTHERAPY by unfold fn0; rw [if_pos hc4]; try rfl)), N3, e3⟩ (by decide) (by decide)
  · refine Gl.by (g' := (mkF m 25 #[.val (.int p0), .val (.int (p0 &&& (7 : Int32))), .val (.ref (fn1 (p0 &&& (7 : Int32)) w_AMBULATORY w_MATERNITY w_LABORATORY w_DENTAL w_OTHER w_MEDICATION w_HOSPITAL w_PHYSIOTHERAPY))] [])) (fun _ k => XS.icmpYes X3.here hx rfl (pc0 := 18) (pc' := 25) rfl (hb hby at_18) rfl (feq hc4).2 (by decide) (by decide) k) ?_
    refine Gl.by (g' := (mkF m 26 #[.val (.int p0), .val (.int (p0 &&& (7 : Int32))), .val (.ref (fn1 (p0 &&& (7 : Int32)) w_AMBULATORY w_MATERNITY w_LABORATORY w_DENTAL w_OTHER w_MEDICATION w_HOSPITAL w_PHYSIOTHERAPY))] [(.int (0 : Int32))])) (fun _ k => XS.iconst X3.here hx rfl (hb hby at_25) k) ?_
    exact Gl.outN X3 hx hk (t := .boolean) Bd.returns (by simp) (hb hby at_26) ⟨(congrArg (fun z => some (Value.int z)) (show nar .boolean (0 : Int32) = fn0 p0 w_AMBULATORY w_MATERNITY w_LABORATORY w_DENTAL w_OTHER w_MEDICATION w_HOSPITAL w_PHYSIOTHERAPY by unfold fn0; rw [if_neg hc4]; try rfl)), N3, e3⟩ (by decide) (by decide)
theorem plain (p0 : Int32) (w_AMBULATORY w_MATERNITY w_LABORATORY w_DENTAL w_OTHER w_MEDICATION w_HOSPITAL w_PHYSIOTHERAPY : Addr) (h_AMBULATORY_MATERNITY : w_AMBULATORY ≠ w_MATERNITY) (h_AMBULATORY_LABORATORY : w_AMBULATORY ≠ w_LABORATORY) (h_AMBULATORY_DENTAL : w_AMBULATORY ≠ w_DENTAL) (h_AMBULATORY_OTHER : w_AMBULATORY ≠ w_OTHER) (h_AMBULATORY_MEDICATION : w_AMBULATORY ≠ w_MEDICATION) (h_AMBULATORY_HOSPITAL : w_AMBULATORY ≠ w_HOSPITAL) (h_AMBULATORY_PHYSIOTHERAPY : w_AMBULATORY ≠ w_PHYSIOTHERAPY) (h_MATERNITY_AMBULATORY : w_MATERNITY ≠ w_AMBULATORY) (h_MATERNITY_LABORATORY : w_MATERNITY ≠ w_LABORATORY) (h_MATERNITY_DENTAL : w_MATERNITY ≠ w_DENTAL) (h_MATERNITY_OTHER : w_MATERNITY ≠ w_OTHER) (h_MATERNITY_MEDICATION : w_MATERNITY ≠ w_MEDICATION) (h_MATERNITY_HOSPITAL : w_MATERNITY ≠ w_HOSPITAL) (h_MATERNITY_PHYSIOTHERAPY : w_MATERNITY ≠ w_PHYSIOTHERAPY) (h_LABORATORY_AMBULATORY : w_LABORATORY ≠ w_AMBULATORY) (h_LABORATORY_MATERNITY : w_LABORATORY ≠ w_MATERNITY) (h_LABORATORY_DENTAL : w_LABORATORY ≠ w_DENTAL) (h_LABORATORY_OTHER : w_LABORATORY ≠ w_OTHER) (h_LABORATORY_MEDICATION : w_LABORATORY ≠ w_MEDICATION) (h_LABORATORY_HOSPITAL : w_LABORATORY ≠ w_HOSPITAL) (h_LABORATORY_PHYSIOTHERAPY : w_LABORATORY ≠ w_PHYSIOTHERAPY) (h_DENTAL_AMBULATORY : w_DENTAL ≠ w_AMBULATORY) (h_DENTAL_MATERNITY : w_DENTAL ≠ w_MATERNITY) (h_DENTAL_LABORATORY : w_DENTAL ≠ w_LABORATORY) (h_DENTAL_OTHER : w_DENTAL ≠ w_OTHER) (h_DENTAL_MEDICATION : w_DENTAL ≠ w_MEDICATION) (h_DENTAL_HOSPITAL : w_DENTAL ≠ w_HOSPITAL) (h_DENTAL_PHYSIOTHERAPY : w_DENTAL ≠ w_PHYSIOTHERAPY) (h_OTHER_AMBULATORY : w_OTHER ≠ w_AMBULATORY) (h_OTHER_MATERNITY : w_OTHER ≠ w_MATERNITY) (h_OTHER_LABORATORY : w_OTHER ≠ w_LABORATORY) (h_OTHER_DENTAL : w_OTHER ≠ w_DENTAL) (h_OTHER_MEDICATION : w_OTHER ≠ w_MEDICATION) (h_OTHER_HOSPITAL : w_OTHER ≠ w_HOSPITAL) (h_OTHER_PHYSIOTHERAPY : w_OTHER ≠ w_PHYSIOTHERAPY) (h_MEDICATION_AMBULATORY : w_MEDICATION ≠ w_AMBULATORY) (h_MEDICATION_MATERNITY : w_MEDICATION ≠ w_MATERNITY) (h_MEDICATION_LABORATORY : w_MEDICATION ≠ w_LABORATORY) (h_MEDICATION_DENTAL : w_MEDICATION ≠ w_DENTAL) (h_MEDICATION_OTHER : w_MEDICATION ≠ w_OTHER) (h_MEDICATION_HOSPITAL : w_MEDICATION ≠ w_HOSPITAL) (h_MEDICATION_PHYSIOTHERAPY : w_MEDICATION ≠ w_PHYSIOTHERAPY) (h_HOSPITAL_AMBULATORY : w_HOSPITAL ≠ w_AMBULATORY) (h_HOSPITAL_MATERNITY : w_HOSPITAL ≠ w_MATERNITY) (h_HOSPITAL_LABORATORY : w_HOSPITAL ≠ w_LABORATORY) (h_HOSPITAL_DENTAL : w_HOSPITAL ≠ w_DENTAL) (h_HOSPITAL_OTHER : w_HOSPITAL ≠ w_OTHER) (h_HOSPITAL_MEDICATION : w_HOSPITAL ≠ w_MEDICATION) (h_HOSPITAL_PHYSIOTHERAPY : w_HOSPITAL ≠ w_PHYSIOTHERAPY) (h_PHYSIOTHERAPY_AMBULATORY : w_PHYSIOTHERAPY ≠ w_AMBULATORY) (h_PHYSIOTHERAPY_MATERNITY : w_PHYSIOTHERAPY ≠ w_MATERNITY) (h_PHYSIOTHERAPY_LABORATORY : w_PHYSIOTHERAPY ≠ w_LABORATORY) (h_PHYSIOTHERAPY_DENTAL : w_PHYSIOTHERAPY ≠ w_DENTAL) (h_PHYSIOTHERAPY_OTHER : w_PHYSIOTHERAPY ≠ w_OTHER) (h_PHYSIOTHERAPY_MEDICATION : w_PHYSIOTHERAPY ≠ w_MEDICATION) (h_PHYSIOTHERAPY_HOSPITAL : w_PHYSIOTHERAPY ≠ w_HOSPITAL) : fn0 p0 w_AMBULATORY w_MATERNITY w_LABORATORY w_DENTAL w_OTHER w_MEDICATION w_HOSPITAL w_PHYSIOTHERAPY = 1 := by
  unfold fn0
  generalize (p0 &&& (7 : Int32)) = k
  by_cases h0 : k = 0
  · subst h0; simp_all [fn1, fn2, fn3, nar]
  by_cases h1 : k = 1
  · subst h1; simp_all [fn1, fn2, fn3, nar]
  by_cases h2 : k = 2
  · subst h2; simp_all [fn1, fn2, fn3, nar]
  by_cases h3 : k = 3
  · subst h3; simp_all [fn1, fn2, fn3, nar]
  by_cases h4 : k = 4
  · subst h4; simp_all [fn1, fn2, fn3, nar]
  by_cases h5 : k = 5
  · subst h5; simp_all [fn1, fn2, fn3, nar]
  by_cases h6 : k = 6
  · subst h6; simp_all [fn1, fn2, fn3, nar]
  simp_all [fn1, fn2, fn3, nar]
set_option maxRecDepth 65536 in
set_option maxHeartbeats 40000000 in
theorem comes_1 {Post : Tables → Env → Array Value → State → Outcome → State → Prop} (hpost : ∀ tb e args s v u, (limb_1_1.after args s (.returned v) u = true ∧ limb_1_2.after args s (.returned v) u = true ∧ True) → FrameEnd s (.returned v) u (Jvm.fieldLocs frame_1_writes args s ++ Jvm.arrayLocs frame_1_arrays args s ++ Jvm.staticLocs frame_1_statics s) 0 0 → Post tb e args s (.returned v) u) :
    ArmFor flags0 classFile x code maxLocals ret World_1 tables_1 room_1 Calls_1 rest_1 Pre_1 Post := by
  intro l hfl _ _ p e ha hc hk s m args below hf hA hF happ hP
  obtain ⟨hcalls, hrest, hpre⟩ := hP
  obtain ⟨-, -, -, hnamed, -, -, -, hat⟩ := (Spec.applies_iff hf).mp happ
  obtain ⟨hg, hn⟩ := and_e (Cond.before_iff.mp (show (Jvm.Cond.and given_1 narrow_1).before args s = true from hpre))
  obtain ⟨ga1, gb1⟩ := and_e hg
  obtain ⟨w0, rfl⟩ : ∃ w0 : Value, args = #[w0] := by
    have hs : args.size = 1 := by simpa [Cond.value, given_1] using ga1
    obtain ⟨L⟩ := args
    match L, hs with
    | [w0], _ => exact ⟨w0, rfl⟩
  have hw := fun d (hd : d ∈ tables_1) => atoms_spec (ws := Jvm.Cond.code x code maxLocals ret :: tables_1) hat d (List.mem_cons_of_mem _ hd)
  have hfit : Fit s := fun {y c} hc i hi => by
    obtain ⟨ha, rfl⟩ := Array.getElem?_eq_some_iff.mp hc
    have q := List.all_eq_true.mp ((Array.all_eq_true_iff_forall_mem.mp hF) _ (Array.getElem_mem ha)) i (List.mem_range.mpr hi)
    simpa [Array.getElem?_eq_getElem hi] using q
  obtain ⟨i0, ei0⟩ := is_v gb1
  obtain rfl : w0 = (.int i0) := Option.some.inj ei0
  obtain ⟨y1, z1⟩ := and_e hn
  obtain ⟨y2, z2⟩ := and_e z1
  obtain ⟨y3, z3⟩ := and_e z2
  obtain ⟨y4, z4⟩ := and_e z3
  obtain ⟨y5, z5⟩ := and_e z4
  obtain ⟨y6, z6⟩ := and_e z5
  obtain ⟨y7, z7⟩ := and_e z6
  obtain ⟨y8, z8⟩ := and_e z7
  obtain ⟨y9, z9⟩ := and_e z8
  obtain ⟨y10, z10⟩ := and_e z9
  obtain ⟨y11, z11⟩ := and_e z10
  obtain ⟨y12, z12⟩ := and_e z11
  obtain ⟨y13, z13⟩ := and_e z12
  obtain ⟨y14, z14⟩ := and_e z13
  obtain ⟨y15, z15⟩ := and_e z14
  obtain ⟨w_AMBULATORY, ev_w_AMBULATORY⟩ := exa_v y1
  have S_w_AMBULATORY := Sta.start ev_w_AMBULATORY (Or.inr ⟨(hw _ (List.mem_of_getElem? (i := 5) rfl)), (hw _ (List.mem_of_getElem? (i := 6) rfl))⟩)
  have E_w_AMBULATORY := Exa.start ev_w_AMBULATORY y1
  obtain ⟨w_MATERNITY, ev_w_MATERNITY⟩ := exa_v y2
  have S_w_MATERNITY := Sta.start ev_w_MATERNITY (Or.inr ⟨(hw _ (List.mem_of_getElem? (i := 5) rfl)), (hw _ (List.mem_of_getElem? (i := 13) rfl))⟩)
  have E_w_MATERNITY := Exa.start ev_w_MATERNITY y2
  obtain ⟨w_LABORATORY, ev_w_LABORATORY⟩ := exa_v y5
  have S_w_LABORATORY := Sta.start ev_w_LABORATORY (Or.inr ⟨(hw _ (List.mem_of_getElem? (i := 5) rfl)), (hw _ (List.mem_of_getElem? (i := 18) rfl))⟩)
  have E_w_LABORATORY := Exa.start ev_w_LABORATORY y5
  obtain ⟨w_DENTAL, ev_w_DENTAL⟩ := exa_v y7
  have S_w_DENTAL := Sta.start ev_w_DENTAL (Or.inr ⟨(hw _ (List.mem_of_getElem? (i := 5) rfl)), (hw _ (List.mem_of_getElem? (i := 20) rfl))⟩)
  have E_w_DENTAL := Exa.start ev_w_DENTAL y7
  obtain ⟨w_OTHER, ev_w_OTHER⟩ := exa_v y9
  have S_w_OTHER := Sta.start ev_w_OTHER (Or.inr ⟨(hw _ (List.mem_of_getElem? (i := 5) rfl)), (hw _ (List.mem_of_getElem? (i := 22) rfl))⟩)
  have E_w_OTHER := Exa.start ev_w_OTHER y9
  obtain ⟨w_MEDICATION, ev_w_MEDICATION⟩ := exa_v y11
  have S_w_MEDICATION := Sta.start ev_w_MEDICATION (Or.inr ⟨(hw _ (List.mem_of_getElem? (i := 5) rfl)), (hw _ (List.mem_of_getElem? (i := 24) rfl))⟩)
  have E_w_MEDICATION := Exa.start ev_w_MEDICATION y11
  obtain ⟨w_HOSPITAL, ev_w_HOSPITAL⟩ := exa_v y13
  have S_w_HOSPITAL := Sta.start ev_w_HOSPITAL (Or.inr ⟨(hw _ (List.mem_of_getElem? (i := 5) rfl)), (hw _ (List.mem_of_getElem? (i := 26) rfl))⟩)
  have E_w_HOSPITAL := Exa.start ev_w_HOSPITAL y13
  obtain ⟨w_PHYSIOTHERAPY, ev_w_PHYSIOTHERAPY⟩ := exa_v y15
  have S_w_PHYSIOTHERAPY := Sta.start ev_w_PHYSIOTHERAPY (Or.inr ⟨(hw _ (List.mem_of_getElem? (i := 5) rfl)), (hw _ (List.mem_of_getElem? (i := 28) rfl))⟩)
  have E_w_PHYSIOTHERAPY := Exa.start ev_w_PHYSIOTHERAPY y15
  have F_ordinal_w_AMBULATORY := Fld.start ((fld_at ev_w_AMBULATORY).symm.trans (eqI_v y3))
  have F_ordinal_w_MATERNITY := Fld.start ((fld_at ev_w_MATERNITY).symm.trans (eqI_v y4))
  have F_ordinal_w_LABORATORY := Fld.start ((fld_at ev_w_LABORATORY).symm.trans (eqI_v y6))
  have F_ordinal_w_DENTAL := Fld.start ((fld_at ev_w_DENTAL).symm.trans (eqI_v y8))
  have F_ordinal_w_OTHER := Fld.start ((fld_at ev_w_OTHER).symm.trans (eqI_v y10))
  have F_ordinal_w_MEDICATION := Fld.start ((fld_at ev_w_MEDICATION).symm.trans (eqI_v y12))
  have F_ordinal_w_HOSPITAL := Fld.start ((fld_at ev_w_HOSPITAL).symm.trans (eqI_v y14))
  have F_ordinal_w_PHYSIOTHERAPY := Fld.start ((fld_at ev_w_PHYSIOTHERAPY).symm.trans (eqI_v z15))
  have n_AMBULATORY_MATERNITY : w_AMBULATORY ≠ w_MATERNITY := Fld.ne F_ordinal_w_AMBULATORY F_ordinal_w_MATERNITY (fun q => absurd (Value.int.inj q) (by decide))
  have n_AMBULATORY_LABORATORY : w_AMBULATORY ≠ w_LABORATORY := Fld.ne F_ordinal_w_AMBULATORY F_ordinal_w_LABORATORY (fun q => absurd (Value.int.inj q) (by decide))
  have n_AMBULATORY_DENTAL : w_AMBULATORY ≠ w_DENTAL := Fld.ne F_ordinal_w_AMBULATORY F_ordinal_w_DENTAL (fun q => absurd (Value.int.inj q) (by decide))
  have n_AMBULATORY_OTHER : w_AMBULATORY ≠ w_OTHER := Fld.ne F_ordinal_w_AMBULATORY F_ordinal_w_OTHER (fun q => absurd (Value.int.inj q) (by decide))
  have n_AMBULATORY_MEDICATION : w_AMBULATORY ≠ w_MEDICATION := Fld.ne F_ordinal_w_AMBULATORY F_ordinal_w_MEDICATION (fun q => absurd (Value.int.inj q) (by decide))
  have n_AMBULATORY_HOSPITAL : w_AMBULATORY ≠ w_HOSPITAL := Fld.ne F_ordinal_w_AMBULATORY F_ordinal_w_HOSPITAL (fun q => absurd (Value.int.inj q) (by decide))
  have n_AMBULATORY_PHYSIOTHERAPY : w_AMBULATORY ≠ w_PHYSIOTHERAPY := Fld.ne F_ordinal_w_AMBULATORY F_ordinal_w_PHYSIOTHERAPY (fun q => absurd (Value.int.inj q) (by decide))
  have n_MATERNITY_AMBULATORY : w_MATERNITY ≠ w_AMBULATORY := Fld.ne F_ordinal_w_MATERNITY F_ordinal_w_AMBULATORY (fun q => absurd (Value.int.inj q) (by decide))
  have n_MATERNITY_LABORATORY : w_MATERNITY ≠ w_LABORATORY := Fld.ne F_ordinal_w_MATERNITY F_ordinal_w_LABORATORY (fun q => absurd (Value.int.inj q) (by decide))
  have n_MATERNITY_DENTAL : w_MATERNITY ≠ w_DENTAL := Fld.ne F_ordinal_w_MATERNITY F_ordinal_w_DENTAL (fun q => absurd (Value.int.inj q) (by decide))
  have n_MATERNITY_OTHER : w_MATERNITY ≠ w_OTHER := Fld.ne F_ordinal_w_MATERNITY F_ordinal_w_OTHER (fun q => absurd (Value.int.inj q) (by decide))
  have n_MATERNITY_MEDICATION : w_MATERNITY ≠ w_MEDICATION := Fld.ne F_ordinal_w_MATERNITY F_ordinal_w_MEDICATION (fun q => absurd (Value.int.inj q) (by decide))
  have n_MATERNITY_HOSPITAL : w_MATERNITY ≠ w_HOSPITAL := Fld.ne F_ordinal_w_MATERNITY F_ordinal_w_HOSPITAL (fun q => absurd (Value.int.inj q) (by decide))
  have n_MATERNITY_PHYSIOTHERAPY : w_MATERNITY ≠ w_PHYSIOTHERAPY := Fld.ne F_ordinal_w_MATERNITY F_ordinal_w_PHYSIOTHERAPY (fun q => absurd (Value.int.inj q) (by decide))
  have n_LABORATORY_AMBULATORY : w_LABORATORY ≠ w_AMBULATORY := Fld.ne F_ordinal_w_LABORATORY F_ordinal_w_AMBULATORY (fun q => absurd (Value.int.inj q) (by decide))
  have n_LABORATORY_MATERNITY : w_LABORATORY ≠ w_MATERNITY := Fld.ne F_ordinal_w_LABORATORY F_ordinal_w_MATERNITY (fun q => absurd (Value.int.inj q) (by decide))
  have n_LABORATORY_DENTAL : w_LABORATORY ≠ w_DENTAL := Fld.ne F_ordinal_w_LABORATORY F_ordinal_w_DENTAL (fun q => absurd (Value.int.inj q) (by decide))
  have n_LABORATORY_OTHER : w_LABORATORY ≠ w_OTHER := Fld.ne F_ordinal_w_LABORATORY F_ordinal_w_OTHER (fun q => absurd (Value.int.inj q) (by decide))
  have n_LABORATORY_MEDICATION : w_LABORATORY ≠ w_MEDICATION := Fld.ne F_ordinal_w_LABORATORY F_ordinal_w_MEDICATION (fun q => absurd (Value.int.inj q) (by decide))
  have n_LABORATORY_HOSPITAL : w_LABORATORY ≠ w_HOSPITAL := Fld.ne F_ordinal_w_LABORATORY F_ordinal_w_HOSPITAL (fun q => absurd (Value.int.inj q) (by decide))
  have n_LABORATORY_PHYSIOTHERAPY : w_LABORATORY ≠ w_PHYSIOTHERAPY := Fld.ne F_ordinal_w_LABORATORY F_ordinal_w_PHYSIOTHERAPY (fun q => absurd (Value.int.inj q) (by decide))
  have n_DENTAL_AMBULATORY : w_DENTAL ≠ w_AMBULATORY := Fld.ne F_ordinal_w_DENTAL F_ordinal_w_AMBULATORY (fun q => absurd (Value.int.inj q) (by decide))
  have n_DENTAL_MATERNITY : w_DENTAL ≠ w_MATERNITY := Fld.ne F_ordinal_w_DENTAL F_ordinal_w_MATERNITY (fun q => absurd (Value.int.inj q) (by decide))
  have n_DENTAL_LABORATORY : w_DENTAL ≠ w_LABORATORY := Fld.ne F_ordinal_w_DENTAL F_ordinal_w_LABORATORY (fun q => absurd (Value.int.inj q) (by decide))
  have n_DENTAL_OTHER : w_DENTAL ≠ w_OTHER := Fld.ne F_ordinal_w_DENTAL F_ordinal_w_OTHER (fun q => absurd (Value.int.inj q) (by decide))
  have n_DENTAL_MEDICATION : w_DENTAL ≠ w_MEDICATION := Fld.ne F_ordinal_w_DENTAL F_ordinal_w_MEDICATION (fun q => absurd (Value.int.inj q) (by decide))
  have n_DENTAL_HOSPITAL : w_DENTAL ≠ w_HOSPITAL := Fld.ne F_ordinal_w_DENTAL F_ordinal_w_HOSPITAL (fun q => absurd (Value.int.inj q) (by decide))
  have n_DENTAL_PHYSIOTHERAPY : w_DENTAL ≠ w_PHYSIOTHERAPY := Fld.ne F_ordinal_w_DENTAL F_ordinal_w_PHYSIOTHERAPY (fun q => absurd (Value.int.inj q) (by decide))
  have n_OTHER_AMBULATORY : w_OTHER ≠ w_AMBULATORY := Fld.ne F_ordinal_w_OTHER F_ordinal_w_AMBULATORY (fun q => absurd (Value.int.inj q) (by decide))
  have n_OTHER_MATERNITY : w_OTHER ≠ w_MATERNITY := Fld.ne F_ordinal_w_OTHER F_ordinal_w_MATERNITY (fun q => absurd (Value.int.inj q) (by decide))
  have n_OTHER_LABORATORY : w_OTHER ≠ w_LABORATORY := Fld.ne F_ordinal_w_OTHER F_ordinal_w_LABORATORY (fun q => absurd (Value.int.inj q) (by decide))
  have n_OTHER_DENTAL : w_OTHER ≠ w_DENTAL := Fld.ne F_ordinal_w_OTHER F_ordinal_w_DENTAL (fun q => absurd (Value.int.inj q) (by decide))
  have n_OTHER_MEDICATION : w_OTHER ≠ w_MEDICATION := Fld.ne F_ordinal_w_OTHER F_ordinal_w_MEDICATION (fun q => absurd (Value.int.inj q) (by decide))
  have n_OTHER_HOSPITAL : w_OTHER ≠ w_HOSPITAL := Fld.ne F_ordinal_w_OTHER F_ordinal_w_HOSPITAL (fun q => absurd (Value.int.inj q) (by decide))
  have n_OTHER_PHYSIOTHERAPY : w_OTHER ≠ w_PHYSIOTHERAPY := Fld.ne F_ordinal_w_OTHER F_ordinal_w_PHYSIOTHERAPY (fun q => absurd (Value.int.inj q) (by decide))
  have n_MEDICATION_AMBULATORY : w_MEDICATION ≠ w_AMBULATORY := Fld.ne F_ordinal_w_MEDICATION F_ordinal_w_AMBULATORY (fun q => absurd (Value.int.inj q) (by decide))
  have n_MEDICATION_MATERNITY : w_MEDICATION ≠ w_MATERNITY := Fld.ne F_ordinal_w_MEDICATION F_ordinal_w_MATERNITY (fun q => absurd (Value.int.inj q) (by decide))
  have n_MEDICATION_LABORATORY : w_MEDICATION ≠ w_LABORATORY := Fld.ne F_ordinal_w_MEDICATION F_ordinal_w_LABORATORY (fun q => absurd (Value.int.inj q) (by decide))
  have n_MEDICATION_DENTAL : w_MEDICATION ≠ w_DENTAL := Fld.ne F_ordinal_w_MEDICATION F_ordinal_w_DENTAL (fun q => absurd (Value.int.inj q) (by decide))
  have n_MEDICATION_OTHER : w_MEDICATION ≠ w_OTHER := Fld.ne F_ordinal_w_MEDICATION F_ordinal_w_OTHER (fun q => absurd (Value.int.inj q) (by decide))
  have n_MEDICATION_HOSPITAL : w_MEDICATION ≠ w_HOSPITAL := Fld.ne F_ordinal_w_MEDICATION F_ordinal_w_HOSPITAL (fun q => absurd (Value.int.inj q) (by decide))
  have n_MEDICATION_PHYSIOTHERAPY : w_MEDICATION ≠ w_PHYSIOTHERAPY := Fld.ne F_ordinal_w_MEDICATION F_ordinal_w_PHYSIOTHERAPY (fun q => absurd (Value.int.inj q) (by decide))
  have n_HOSPITAL_AMBULATORY : w_HOSPITAL ≠ w_AMBULATORY := Fld.ne F_ordinal_w_HOSPITAL F_ordinal_w_AMBULATORY (fun q => absurd (Value.int.inj q) (by decide))
  have n_HOSPITAL_MATERNITY : w_HOSPITAL ≠ w_MATERNITY := Fld.ne F_ordinal_w_HOSPITAL F_ordinal_w_MATERNITY (fun q => absurd (Value.int.inj q) (by decide))
  have n_HOSPITAL_LABORATORY : w_HOSPITAL ≠ w_LABORATORY := Fld.ne F_ordinal_w_HOSPITAL F_ordinal_w_LABORATORY (fun q => absurd (Value.int.inj q) (by decide))
  have n_HOSPITAL_DENTAL : w_HOSPITAL ≠ w_DENTAL := Fld.ne F_ordinal_w_HOSPITAL F_ordinal_w_DENTAL (fun q => absurd (Value.int.inj q) (by decide))
  have n_HOSPITAL_OTHER : w_HOSPITAL ≠ w_OTHER := Fld.ne F_ordinal_w_HOSPITAL F_ordinal_w_OTHER (fun q => absurd (Value.int.inj q) (by decide))
  have n_HOSPITAL_MEDICATION : w_HOSPITAL ≠ w_MEDICATION := Fld.ne F_ordinal_w_HOSPITAL F_ordinal_w_MEDICATION (fun q => absurd (Value.int.inj q) (by decide))
  have n_HOSPITAL_PHYSIOTHERAPY : w_HOSPITAL ≠ w_PHYSIOTHERAPY := Fld.ne F_ordinal_w_HOSPITAL F_ordinal_w_PHYSIOTHERAPY (fun q => absurd (Value.int.inj q) (by decide))
  have n_PHYSIOTHERAPY_AMBULATORY : w_PHYSIOTHERAPY ≠ w_AMBULATORY := Fld.ne F_ordinal_w_PHYSIOTHERAPY F_ordinal_w_AMBULATORY (fun q => absurd (Value.int.inj q) (by decide))
  have n_PHYSIOTHERAPY_MATERNITY : w_PHYSIOTHERAPY ≠ w_MATERNITY := Fld.ne F_ordinal_w_PHYSIOTHERAPY F_ordinal_w_MATERNITY (fun q => absurd (Value.int.inj q) (by decide))
  have n_PHYSIOTHERAPY_LABORATORY : w_PHYSIOTHERAPY ≠ w_LABORATORY := Fld.ne F_ordinal_w_PHYSIOTHERAPY F_ordinal_w_LABORATORY (fun q => absurd (Value.int.inj q) (by decide))
  have n_PHYSIOTHERAPY_DENTAL : w_PHYSIOTHERAPY ≠ w_DENTAL := Fld.ne F_ordinal_w_PHYSIOTHERAPY F_ordinal_w_DENTAL (fun q => absurd (Value.int.inj q) (by decide))
  have n_PHYSIOTHERAPY_OTHER : w_PHYSIOTHERAPY ≠ w_OTHER := Fld.ne F_ordinal_w_PHYSIOTHERAPY F_ordinal_w_OTHER (fun q => absurd (Value.int.inj q) (by decide))
  have n_PHYSIOTHERAPY_MEDICATION : w_PHYSIOTHERAPY ≠ w_MEDICATION := Fld.ne F_ordinal_w_PHYSIOTHERAPY F_ordinal_w_MEDICATION (fun q => absurd (Value.int.inj q) (by decide))
  have n_PHYSIOTHERAPY_HOSPITAL : w_PHYSIOTHERAPY ≠ w_HOSPITAL := Fld.ne F_ordinal_w_PHYSIOTHERAPY F_ordinal_w_HOSPITAL (fun q => absurd (Value.int.inj q) (by decide))
  have W : Wd s w_AMBULATORY w_MATERNITY w_LABORATORY w_DENTAL w_OTHER w_MEDICATION w_HOSPITAL w_PHYSIOTHERAPY := ⟨S_w_AMBULATORY, E_w_AMBULATORY, S_w_MATERNITY, E_w_MATERNITY, S_w_LABORATORY, E_w_LABORATORY, S_w_DENTAL, E_w_DENTAL, S_w_OTHER, E_w_OTHER, S_w_MEDICATION, E_w_MEDICATION, S_w_HOSPITAL, E_w_HOSPITAL, S_w_PHYSIOTHERAPY, E_w_PHYSIOTHERAPY, F_ordinal_w_AMBULATORY, F_ordinal_w_MATERNITY, F_ordinal_w_LABORATORY, F_ordinal_w_DENTAL, F_ordinal_w_OTHER, F_ordinal_w_MEDICATION, F_ordinal_w_HOSPITAL, F_ordinal_w_PHYSIOTHERAPY⟩
  have hpl : fn0 i0 w_AMBULATORY w_MATERNITY w_LABORATORY w_DENTAL w_OTHER w_MEDICATION w_HOSPITAL w_PHYSIOTHERAPY = 1 := plain i0 w_AMBULATORY w_MATERNITY w_LABORATORY w_DENTAL w_OTHER w_MEDICATION w_HOSPITAL w_PHYSIOTHERAPY n_AMBULATORY_MATERNITY n_AMBULATORY_LABORATORY n_AMBULATORY_DENTAL n_AMBULATORY_OTHER n_AMBULATORY_MEDICATION n_AMBULATORY_HOSPITAL n_AMBULATORY_PHYSIOTHERAPY n_MATERNITY_AMBULATORY n_MATERNITY_LABORATORY n_MATERNITY_DENTAL n_MATERNITY_OTHER n_MATERNITY_MEDICATION n_MATERNITY_HOSPITAL n_MATERNITY_PHYSIOTHERAPY n_LABORATORY_AMBULATORY n_LABORATORY_MATERNITY n_LABORATORY_DENTAL n_LABORATORY_OTHER n_LABORATORY_MEDICATION n_LABORATORY_HOSPITAL n_LABORATORY_PHYSIOTHERAPY n_DENTAL_AMBULATORY n_DENTAL_MATERNITY n_DENTAL_LABORATORY n_DENTAL_OTHER n_DENTAL_MEDICATION n_DENTAL_HOSPITAL n_DENTAL_PHYSIOTHERAPY n_OTHER_AMBULATORY n_OTHER_MATERNITY n_OTHER_LABORATORY n_OTHER_DENTAL n_OTHER_MEDICATION n_OTHER_HOSPITAL n_OTHER_PHYSIOTHERAPY n_MEDICATION_AMBULATORY n_MEDICATION_MATERNITY n_MEDICATION_LABORATORY n_MEDICATION_DENTAL n_MEDICATION_OTHER n_MEDICATION_HOSPITAL n_MEDICATION_PHYSIOTHERAPY n_HOSPITAL_AMBULATORY n_HOSPITAL_MATERNITY n_HOSPITAL_LABORATORY n_HOSPITAL_DENTAL n_HOSPITAL_OTHER n_HOSPITAL_MEDICATION n_HOSPITAL_PHYSIOTHERAPY n_PHYSIOTHERAPY_AMBULATORY n_PHYSIOTHERAPY_MATERNITY n_PHYSIOTHERAPY_LABORATORY n_PHYSIOTHERAPY_DENTAL n_PHYSIOTHERAPY_OTHER n_PHYSIOTHERAPY_MEDICATION n_PHYSIOTHERAPY_HOSPITAL
  obtain ⟨n, o, h1, h2, h3, v, L, rfl, ⟨hv, N, -⟩, hq⟩ := rm0 l s _ hw tables_1 i0 w_AMBULATORY w_MATERNITY w_LABORATORY w_DENTAL w_OTHER w_MEDICATION w_HOSPITAL w_PHYSIOTHERAPY s.heap s.heap.size (Old.start s) W p e ha hc hk s m _ below hf ((Spec.applies_iff_loose hf).mp happ).1 ⟨rfl, State.Warmed39.refl s, rfl⟩ trivial
  rw [hpl] at hv
  subst hv
  refine ⟨n, _, h1, h2, h3, hpost _ _ _ _ _ _ ⟨Cond.after_iff.mpr rfl, Cond.after_iff.mpr (eq_i res_at (Term.int_eval (1)) rfl), trivial⟩ ⟨hq.1, hq.2.1, (hq.2.2.sift fun y hy => Or.inr (N y hy)).mono (by decide) (by decide)⟩⟩
theorem main_1_1 : Claimed_1_1 := comes_1 fun _ _ _ _ _ _ h hF => ⟨h.1, hF⟩
theorem main_1_2 : Claimed_1_2 := comes_1 fun _ _ _ _ _ _ h hF => ⟨h.2.1, hF⟩
end Jvm.Pilot.@@N@@
/-! WITNESS -/
namespace Jvm.Pilot.@@N@@
open Jvm Jvm.ClassFile Sem Op Lib Jvm.Free Jvm.Stand Jvm.Pilot.@@N@@.Jvm.D
/-! MADE BY PROGRAM (witnessworld.py) out of the Statement's table words and the real class files: 10 classes; the members and pool entries that the words name. The judged class is class 1, her method 3. -/
namespace start1
open Jvm.ClassFile
def u (s : String) : CpInfo := .utf8 (stringToUtf16 s)
/-- a pool by its gaps: so many unusable entries, then the entry; so many at the end -/
def gap : Nat → List CpInfo → List CpInfo
  | 0, r => r
  | n + 1, r => .unusable :: gap n r
def poolList (es : List (Nat × CpInfo)) (last : Nat) : List CpInfo := es.foldr (fun e r => gap e.1 (e.2 :: r)) (gap last [])
def pool (es : List (Nat × CpInfo)) (last : Nat) : Array CpInfo := ⟨poolList es last⟩
def fileOf (pool : Array CpInfo) (this : Nat) (attrs : Array Attribute := #[]) (ms : Array MethodInfo := #[]) (fl : Nat := 33) (sup : Nat := 0) (ifs : Array Nat := #[]) (fds : Array FieldInfo := #[]) : ClassFile where
  minorVersion := 0
  majorVersion := 65
  constantPool := pool
  accessFlags := fl
  thisClass := this
  superClass := sup
  interfaces := ifs
  fields := fds
  methods := ms
  attributes := attrs
def plain (name : String) (sup : Option ClassId) : Class where
  name := name
  kind := .ordinary
  loader := none
  accessFlags := 33
  super := sup
  interfaces := #[]
  cf := none
  fields := #[]
  methods := #[]
  instanceTypes := #[]
  staticTypes := #[]
  resolved := #[]
  callSites := []
  init := .initialized
  statics := none
  mirror := none

def pool0 : Array CpInfo := pool [(5, u "<init>"), (0, u "()V"), (1, .class_ 10), (1, u "java/lang/Object")] 113

def k0m0 : Method := { name := "<init>", desc := "()V", sig := { parameters := [], returnType := none }, accessFlags := 1, code := none }
/-- java/lang/Object -/
def k0 : Class := { plain "java/lang/Object" none with
  accessFlags := 33
  interfaces := #[]
  cf := some (fileOf pool0 8 #[] #[{ accessFlags := 1, nameIndex := 5, descriptorIndex := 6, attributes := #[] }] 33 0 #[] #[])
  fields := #[]
  methods := #[k0m0]
  instanceTypes := #[]
  staticTypes := #[]
  resolved := Array.replicate 124 none
  statics := none }

def pool1 : Array CpInfo := pool [(2, .class_ 4), (1, u "java/lang/Object"), (0, u "<init>"), (0, u "()V"), (0, .fieldref 8 9), (0, .class_ 10), (0, .nameAndType 11 12), (0, u "com/example/deckwerk/deckwerk/TreatmentType"), (0, u "AMBULATORY"), (0, u "Lcom/example/deckwerk/deckwerk/TreatmentType;"), (0, .fieldref 8 14), (0, .nameAndType 15 12), (0, u "HOSPITAL"), (0, .fieldref 8 17), (0, .nameAndType 18 12), (0, u "MEDICATION"), (0, .fieldref 8 20), (0, .nameAndType 21 12), (0, u "LABORATORY"), (0, .fieldref 8 23), (0, .nameAndType 24 12), (0, u "PHYSIOTHERAPY"), (0, .fieldref 8 26), (0, .nameAndType 27 12), (0, u "MATERNITY"), (0, .fieldref 8 29), (0, .nameAndType 30 12), (0, u "DENTAL"), (0, .fieldref 8 32), (0, .nameAndType 33 12), (0, u "OTHER"), (0, .methodref 35 36), (0, .class_ 37), (0, .nameAndType 38 39), (0, u "com/example/deckwerk/deckwerk/TreatmentTypeIsCostSharedPinLaw"), (0, u "pick"), (0, u "(I)Lcom/example/deckwerk/deckwerk/TreatmentType;"), (0, .methodref 8 41), (0, .nameAndType 42 43), (0, u "isCostShared"), (0, u "()Z"), (0, .methodref 35 45), (0, .nameAndType 46 47), (0, u "expected"), (0, u "(I)Z"), (3, u "law")] 2

def k1m0 : Method := { name := "<init>", desc := "()V", sig := { parameters := [], returnType := none }, accessFlags := 1, code := none }
def k1c1 : Code := { maxStack := 2, maxLocals := 1, code := method_2_code, exceptionTable := #[], attributes := #[] }
def k1m1 : Method := { name := "pick", desc := "(I)Lcom/example/deckwerk/deckwerk/TreatmentType;", sig := { parameters := [.int], returnType := some (.object "com/example/deckwerk/deckwerk/TreatmentType") }, accessFlags := 10, code := some k1c1 }
def k1c2 : Code := { maxStack := 2, maxLocals := 1, code := method_3_code, exceptionTable := #[], attributes := #[] }
def k1m2 : Method := { name := "expected", desc := "(I)Z", sig := { parameters := [.int], returnType := some .boolean }, accessFlags := 10, code := some k1c2 }
def k1c3 : Code := { maxStack := 2, maxLocals := 3, code := code, exceptionTable := #[], attributes := #[] }
def k1m3 : Method := { name := "law", desc := "(I)Z", sig := { parameters := [.int], returnType := some .boolean }, accessFlags := 9, code := some k1c3 }
/-- com/example/deckwerk/deckwerk/TreatmentTypeIsCostSharedPinLaw -/
def k1 : Class := { plain "com/example/deckwerk/deckwerk/TreatmentTypeIsCostSharedPinLaw" (some 0) with
  accessFlags := 49
  interfaces := #[]
  cf := some (fileOf pool1 35 #[] #[{ accessFlags := 1, nameIndex := 5, descriptorIndex := 6, attributes := #[] }, { accessFlags := 10, nameIndex := 38, descriptorIndex := 39, attributes := #[] }, { accessFlags := 10, nameIndex := 46, descriptorIndex := 47, attributes := #[] }, { accessFlags := 9, nameIndex := 51, descriptorIndex := 47, attributes := #[] }] 49 2 #[] #[])
  fields := #[]
  methods := #[k1m0, k1m1, k1m2, k1m3]
  instanceTypes := #[]
  staticTypes := #[]
  resolved := Array.replicate 54 none
  statics := none }

def pool2 : Array CpInfo := pool [(1, .class_ 2), (0, u "java/lang/constant/Constable"), (0, .class_ 4), (0, u "java/lang/Object")] 6

/-- java/lang/constant/Constable -/
def k2 : Class := { plain "java/lang/constant/Constable" (some 0) with
  accessFlags := 1537
  interfaces := #[]
  cf := some (fileOf pool2 1 #[] #[] 1537 3 #[] #[])
  fields := #[]
  methods := #[]
  instanceTypes := #[]
  staticTypes := #[]
  resolved := Array.replicate 11 none
  statics := none }

def pool3 : Array CpInfo := pool [(1, .class_ 2), (0, u "java/lang/Comparable"), (0, .class_ 4), (0, u "java/lang/Object")] 7

/-- java/lang/Comparable -/
def k3 : Class := { plain "java/lang/Comparable" (some 0) with
  accessFlags := 1537
  interfaces := #[]
  cf := some (fileOf pool3 1 #[] #[] 1537 3 #[] #[])
  fields := #[]
  methods := #[]
  instanceTypes := #[]
  staticTypes := #[]
  resolved := Array.replicate 12 none
  statics := none }

def pool4 : Array CpInfo := pool [(1, .class_ 2), (0, u "java/io/Serializable"), (0, .class_ 4), (0, u "java/lang/Object")] 2

/-- java/io/Serializable -/
def k4 : Class := { plain "java/io/Serializable" (some 0) with
  accessFlags := 1537
  interfaces := #[]
  cf := some (fileOf pool4 1 #[] #[] 1537 3 #[] #[])
  fields := #[]
  methods := #[]
  instanceTypes := #[]
  staticTypes := #[]
  resolved := Array.replicate 7 none
  statics := none }

def pool5 : Array CpInfo := pool [(2, .class_ 4), (1, u "java/lang/Enum"), (0, u "name"), (0, u "Ljava/lang/String;"), (2, u "ordinal"), (0, u "I"), (1, .class_ 14), (1, u "java/lang/Object"), (4, u "hash"), (86, .class_ 108), (1, u "java/lang/Enum$EnumDesc"), (2, .class_ 112), (0, u "java/lang/constant/Constable"), (0, .class_ 114), (0, u "java/lang/Comparable"), (0, .class_ 116), (0, u "java/io/Serializable")] 87

/-- java/lang/Enum -/
def k5 : Class := { plain "java/lang/Enum" (some 0) with
  accessFlags := 1057
  interfaces := #[2, 3, 4]
  cf := some (fileOf pool5 2 #[.nestMembers #[106]] #[] 1057 12 #[111, 113, 115] #[{ accessFlags := 18, nameIndex := 5, descriptorIndex := 6, attributes := #[] }, { accessFlags := 18, nameIndex := 9, descriptorIndex := 10, attributes := #[] }, { accessFlags := 2, nameIndex := 19, descriptorIndex := 10, attributes := #[] }])
  fields := #[{ name := "name", type := (.object "java/lang/String"), accessFlags := 18, slot := 0, constantValue := 0 }, { name := "ordinal", type := .int, accessFlags := 18, slot := 1, constantValue := 0 }, { name := "hash", type := .int, accessFlags := 2, slot := 2, constantValue := 0 }]
  methods := #[]
  instanceTypes := #[(.object "java/lang/String"), .int, .int]
  staticTypes := #[]
  resolved := Array.replicate 204 none
  statics := none }

def pool6 : Array CpInfo := pool [(1, .class_ 2), (0, u "com/example/deckwerk/deckwerk/TreatmentType"), (2, u "AMBULATORY"), (0, u "Lcom/example/deckwerk/deckwerk/TreatmentType;"), (2, u "HOSPITAL"), (2, u "MEDICATION"), (2, u "LABORATORY"), (2, u "PHYSIOTHERAPY"), (0, .fieldref 1 20), (0, .nameAndType 21 6), (0, u "MATERNITY"), (2, u "DENTAL"), (2, u "OTHER"), (2, u "$VALUES"), (0, u "[Lcom/example/deckwerk/deckwerk/TreatmentType;"), (6, .class_ 40), (1, u "java/lang/Enum"), (26, u "isCostShared"), (0, u "()Z")] 5

def k6c0 : Code := { maxStack := 2, maxLocals := 1, code := prog_12_method_4_code, exceptionTable := #[], attributes := #[] }
def k6m0 : Method := { name := "isCostShared", desc := "()Z", sig := { parameters := [], returnType := some .boolean }, accessFlags := 0, code := some k6c0 }
/-- com/example/deckwerk/deckwerk/TreatmentType -/
def k6 : Class := { plain "com/example/deckwerk/deckwerk/TreatmentType" (some 5) with
  accessFlags := 16433
  interfaces := #[]
  cf := some (fileOf pool6 1 #[] #[{ accessFlags := 0, nameIndex := 67, descriptorIndex := 68, attributes := #[] }] 16433 38 #[] #[{ accessFlags := 16409, nameIndex := 5, descriptorIndex := 6, attributes := #[] }, { accessFlags := 16409, nameIndex := 9, descriptorIndex := 6, attributes := #[] }, { accessFlags := 16409, nameIndex := 12, descriptorIndex := 6, attributes := #[] }, { accessFlags := 16409, nameIndex := 15, descriptorIndex := 6, attributes := #[] }, { accessFlags := 16409, nameIndex := 18, descriptorIndex := 6, attributes := #[] }, { accessFlags := 16409, nameIndex := 21, descriptorIndex := 6, attributes := #[] }, { accessFlags := 16409, nameIndex := 24, descriptorIndex := 6, attributes := #[] }, { accessFlags := 16409, nameIndex := 27, descriptorIndex := 6, attributes := #[] }, { accessFlags := 4122, nameIndex := 30, descriptorIndex := 31, attributes := #[] }])
  fields := #[{ name := "AMBULATORY", type := (.object "com/example/deckwerk/deckwerk/TreatmentType"), accessFlags := 16409, slot := 0, constantValue := 0 }, { name := "HOSPITAL", type := (.object "com/example/deckwerk/deckwerk/TreatmentType"), accessFlags := 16409, slot := 1, constantValue := 0 }, { name := "MEDICATION", type := (.object "com/example/deckwerk/deckwerk/TreatmentType"), accessFlags := 16409, slot := 2, constantValue := 0 }, { name := "LABORATORY", type := (.object "com/example/deckwerk/deckwerk/TreatmentType"), accessFlags := 16409, slot := 3, constantValue := 0 }, { name := "PHYSIOTHERAPY", type := (.object "com/example/deckwerk/deckwerk/TreatmentType"), accessFlags := 16409, slot := 4, constantValue := 0 }, { name := "MATERNITY", type := (.object "com/example/deckwerk/deckwerk/TreatmentType"), accessFlags := 16409, slot := 5, constantValue := 0 }, { name := "DENTAL", type := (.object "com/example/deckwerk/deckwerk/TreatmentType"), accessFlags := 16409, slot := 6, constantValue := 0 }, { name := "OTHER", type := (.object "com/example/deckwerk/deckwerk/TreatmentType"), accessFlags := 16409, slot := 7, constantValue := 0 }, { name := "$VALUES", type := (.array (.object "com/example/deckwerk/deckwerk/TreatmentType")), accessFlags := 4122, slot := 8, constantValue := 0 }]
  methods := #[k6m0]
  instanceTypes := #[(.object "java/lang/String"), .int, .int]
  staticTypes := #[(.object "com/example/deckwerk/deckwerk/TreatmentType"), (.object "com/example/deckwerk/deckwerk/TreatmentType"), (.object "com/example/deckwerk/deckwerk/TreatmentType"), (.object "com/example/deckwerk/deckwerk/TreatmentType"), (.object "com/example/deckwerk/deckwerk/TreatmentType"), (.object "com/example/deckwerk/deckwerk/TreatmentType"), (.object "com/example/deckwerk/deckwerk/TreatmentType"), (.object "com/example/deckwerk/deckwerk/TreatmentType"), (.array (.object "com/example/deckwerk/deckwerk/TreatmentType"))]
  resolved := Array.replicate 74 none
  statics := some 0 }

def pool7 : Array CpInfo := pool [(1, u "java/lang/Cloneable"), (0, .class_ 1), (0, u "java/lang/Object"), (0, .class_ 3)] 3

/-- java/lang/Cloneable -/
def k7 : Class := { plain "java/lang/Cloneable" (some 0) with
  accessFlags := 1537
  interfaces := #[]
  cf := some (fileOf pool7 2 #[] #[] 1537 4 #[] #[])
  fields := #[]
  methods := #[]
  instanceTypes := #[]
  staticTypes := #[]
  resolved := Array.replicate 8 none
  statics := none }

/-- the primitive byte -/
def k8 : Class := { plain "byte" none with kind := .primitive 'B', accessFlags := 0x411 }
/-- [B -/
def k9 : Class := { plain "[B" (some 0) with kind := .array 8 .byte, interfaces := #[7, 4], accessFlags := 1041 }

def heap : Heap := #[{ cls := 6, slots := #[.ref 1, .ref 7, .ref 6, .ref 3, .ref 8, .ref 2, .ref 4, .ref 5, .null], vm := .statics 6 },
  { cls := 6, slots := #[.null, .int 0, .int 0], vm := .none },
  { cls := 6, slots := #[.null, .int 5, .int 0], vm := .none },
  { cls := 6, slots := #[.null, .int 3, .int 0], vm := .none },
  { cls := 6, slots := #[.null, .int 6, .int 0], vm := .none },
  { cls := 6, slots := #[.null, .int 7, .int 0], vm := .none },
  { cls := 6, slots := #[.null, .int 2, .int 0], vm := .none },
  { cls := 6, slots := #[.null, .int 1, .int 0], vm := .none },
  { cls := 6, slots := #[.null, .int 4, .int 0], vm := .none }]
def classes : Array Class := #[k0, k1, k2, k3, k4, k5, k6, k7, k8, k9]
def interned : List (Array UInt16 × Addr) := []
def slotsUsed : Nat := 33
def theMethod : MethodId := ⟨1, 3⟩
def args0 : Array Value := #[.int 5]
def aboutOver (below : List Frame) : State where
  vm := { classes := classes, interned := interned.toArray }
  heap := heap
  slotsUsed := slotsUsed
  threads := #[{ frames := .invoking theMethod args0 :: below }]
def below0 : List Frame := [.native { method := ⟨0, 0⟩, args := #[] }]
def about1 : State := aboutOver below0
def p0 : Program := .bare "" "" ""
def e0 : Env := launch0.env 0 0 0
theorem w_frames : about1.frames = Frame.invoking theMethod args0 :: below0 := rfl
set_option maxRecDepth 65536 in
theorem w_args : argsFit about1.vm theMethod args0 = true := by decide +kernel
set_option maxRecDepth 65536 in
theorem w_heap : heapFits about1 = true := by decide +kernel
set_option maxRecDepth 65536 in
theorem w_runnable : about1.curStatus? = some .runnable := by decide +kernel
set_option maxRecDepth 65536 in
theorem w_alone : about1.alone = true := by decide +kernel
set_option maxRecDepth 65536 in
theorem w_named : about1.methodNamed? x = some theMethod := by decide +kernel
set_option maxRecDepth 65536 in
theorem w_hears : about1.hears theMethod below0 = true := by decide +kernel
set_option maxRecDepth 65536 in
theorem w_ripe : about1.ripe theMethod args0 below0 = true := by decide +kernel
theorem w_running : about1.status = .running := rfl
set_option maxRecDepth 65536 in
theorem w_room : about1.hasRoom e0.platform room_1 = true :=
  launch0.hasRoom_least _ room_1 (by decide +kernel) (by decide +kernel) (by decide +kernel) (by decide +kernel) (by decide +kernel) (by decide +kernel)
theorem allAtoms_all (ts : List Jvm.Cond) (a : Array Jvm.Value) (st : Jvm.State) : (allAtoms ts).before a st = ts.all (fun c => c.before a st) := by
  induction ts with
  | nil => rfl
  | cons c t ih =>
    show (Jvm.Cond.and c (allAtoms t)).before a st = _
    rw [Jvm.Cond.before_and, ih, List.all_cons]
def words1 : List Jvm.Cond := Jvm.Cond.code x code maxLocals ret :: tables_1
/-- a 'code' word, met by the world's own term for the bytes: nothing is compared byte by byte -/
theorem code_word {y : MethodName} {bytes : ByteArray} {mx : Nat} {rt : Option FieldType} {a : Array Value} {s : State} {m : MethodId} {meth : Method} {c : Code} (h1 : s.methodNamed? y = some m) (h2 : s.vm.method? m = some meth) (h3 : meth.code = some c) (h4 : c.code = bytes)
    (h5 : (c.maxLocals == mx && c.exceptionTable.isEmpty && decide (c.maxStack ≤ mostOperands) && decide (meth.sig.returnType = rt) && !meth.locks && decide (parseMethodDescriptor y.desc = some meth.sig)) = true) : (Jvm.Cond.code y bytes mx rt).before a s = true := by
  simp only [Bool.and_eq_true, beq_iff_eq, Bool.not_eq_true', decide_eq_true_eq] at h5
  obtain ⟨⟨⟨⟨⟨g1, g2⟩, g3⟩, g4⟩, g5⟩, g6⟩ := h5
  simp [Cond.before, Cond.holds, Cond.value, h1, h2, h3, h4, g1, g2, g3, g4, g5, g6]
def isCode : Jvm.Cond → Bool
  | .code _ _ _ _ => true
  | _ => false
theorem all_split {L : List Jvm.Cond} {P : Jvm.Cond → Bool} (h1 : L.all (fun c => isCode c || P c) = true) (h2 : ∀ c ∈ L.filter isCode, P c = true) : L.all P = true := by
  refine List.all_eq_true.mpr fun c hc => ?_
  have h := List.all_eq_true.mp h1 c hc
  rcases Bool.eq_false_or_eq_true (isCode c) with hi | hi
  · exact h2 c (List.mem_filter.mpr ⟨hc, hi⟩)
  · simpa [hi] using h
set_option maxRecDepth 65536 in
theorem w_c0 : (Jvm.Cond.code x code maxLocals ret).before args0 about1 = true := code_word (m := ⟨1, 3⟩) (meth := k1m3) (c := k1c3) (by decide +kernel) rfl rfl rfl (by decide +kernel)
set_option maxRecDepth 65536 in
theorem w_c1 : (Jvm.Cond.code ({ cls := "com/example/deckwerk/deckwerk/TreatmentTypeIsCostSharedPinLaw", name := "pick", desc := "(I)Lcom/example/deckwerk/deckwerk/TreatmentType;" } : Jvm.MethodName) method_2_code (1 : Nat) (Option.some (Jvm.ClassFile.FieldType.object "com/example/deckwerk/deckwerk/TreatmentType"))).before args0 about1 = true := code_word (m := ⟨1, 1⟩) (meth := k1m1) (c := k1c1) (by decide +kernel) rfl rfl rfl (by decide +kernel)
set_option maxRecDepth 65536 in
theorem w_c2 : (Jvm.Cond.code ({ cls := "com/example/deckwerk/deckwerk/TreatmentType", name := "isCostShared", desc := "()Z" } : Jvm.MethodName) prog_12_method_4_code (1 : Nat) (Option.some Jvm.ClassFile.FieldType.boolean)).before args0 about1 = true := code_word (m := ⟨6, 0⟩) (meth := k6m0) (c := k6c0) (by decide +kernel) rfl rfl rfl (by decide +kernel)
set_option maxRecDepth 65536 in
theorem w_c3 : (Jvm.Cond.code ({ cls := "com/example/deckwerk/deckwerk/TreatmentTypeIsCostSharedPinLaw", name := "expected", desc := "(I)Z" } : Jvm.MethodName) method_3_code (1 : Nat) (Option.some Jvm.ClassFile.FieldType.boolean)).before args0 about1 = true := code_word (m := ⟨1, 2⟩) (meth := k1m2) (c := k1c2) (by decide +kernel) rfl rfl rfl (by decide +kernel)
def codes1 : List Jvm.Cond := [Jvm.Cond.code x code maxLocals ret, Jvm.Cond.code ({ cls := "com/example/deckwerk/deckwerk/TreatmentTypeIsCostSharedPinLaw", name := "pick", desc := "(I)Lcom/example/deckwerk/deckwerk/TreatmentType;" } : Jvm.MethodName) method_2_code (1 : Nat) (Option.some (Jvm.ClassFile.FieldType.object "com/example/deckwerk/deckwerk/TreatmentType")), Jvm.Cond.code ({ cls := "com/example/deckwerk/deckwerk/TreatmentType", name := "isCostShared", desc := "()Z" } : Jvm.MethodName) prog_12_method_4_code (1 : Nat) (Option.some Jvm.ClassFile.FieldType.boolean), Jvm.Cond.code ({ cls := "com/example/deckwerk/deckwerk/TreatmentTypeIsCostSharedPinLaw", name := "expected", desc := "(I)Z" } : Jvm.MethodName) method_3_code (1 : Nat) (Option.some Jvm.ClassFile.FieldType.boolean)]
set_option maxRecDepth 65536 in
theorem codes_eq : words1.filter isCode = codes1 := rfl
theorem w_codes : ∀ c ∈ words1.filter isCode, c.before args0 about1 = true := by
  rw [codes_eq]
  intro c hc
  simp only [codes1, List.mem_cons, List.not_mem_nil, or_false] at hc
  rcases hc with rfl | rfl | rfl | rfl
  · exact w_c0
  · exact w_c1
  · exact w_c2
  · exact w_c3
set_option maxRecDepth 65536 in
theorem w_t1 : (words1.take 24).all (fun c => isCode c || c.before args0 about1) = true := by decide +kernel
set_option maxRecDepth 65536 in
theorem w_t2 : (words1.drop 24).all (fun c => isCode c || c.before args0 about1) = true := by decide +kernel
theorem w_tables : (allAtoms (Jvm.Cond.code x code maxLocals ret :: tables_1)).before args0 about1 = true := by
  rw [allAtoms_all]
  show words1.all (fun c => c.before args0 about1) = true
  refine all_split ?_ w_codes
  rw [← List.take_append_drop 24 words1, List.all_append, w_t1, w_t2]
  rfl
set_option maxRecDepth 65536 in
theorem w_case : (Jvm.Cond.and given_1 narrow_1).before args0 about1 = true := by decide +kernel
theorem w_applies : (headSpec (Jvm.Cond.code x code maxLocals ret :: tables_1) room_1).applies x e0.platform about1 = true :=
  (Spec.applies_iff w_frames).mpr ⟨w_running, w_runnable, w_alone, w_named, w_hears, w_ripe, w_room, w_tables⟩
theorem atStart : AtStart classFile x code maxLocals ret World_1 tables_1 room_1 Calls_1 rest_1 Pre_1 launch0 p0 e0 about1 theMethod args0 below0 :=
  ⟨lists_1, trivial, launch0.admits_env _ _ _, launch0.least_env, fairChoices_fair.cas, fairChoices_fair.clock, w_frames, w_args, w_heap, w_applies, trivial, trivial, w_case⟩
end start1
theorem witness_1 : WitnessClaimed_1 := ⟨start1.p0, start1.e0, start1.about1, start1.theMethod, start1.args0, start1.below0, start1.atStart⟩
end Jvm.Pilot.@@N@@
