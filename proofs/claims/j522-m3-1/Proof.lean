import JvmDerived
import JvmDerived.Pilot.@@N@@Statement
import JvmDerived.Pilot.@@N@@Code
set_option linter.unusedVariables false
set_option linter.unusedSimpArgs false
namespace Jvm.RoadKit
open Sem ClassFile Op Lib Jvm.Stand Jvm.Free Jvm.LawKit
section New
variable {p : Program} {l : Launch} {e : Env} {R : Room} {s : State} {m : MethodId} {args : Array Value} {below : List Frame} {meth : Method} {c : Code} {T : State} {locs : List Loc} {cells slots : Nat}
theorem retI (X : Stand p l e R s m args below meth c T locs cells slots) (hx : p.tables.exec = Jvm.exec) {pc : Nat} {Ls : Array Slot} {z : Int32} {rest : List Value} (hret : meth.sig.returnType = some .int) (hd : decode c.code pc = .ok (.ireturn, 1)) {fs : List Frame}
    (hl : ∀ (f : JFrame) (acts : List Action), f.method = m → f.locked = none → f.entered = [] → (doReturn e (T.setTop f) acts (some (.int z))).1 = T.setFrames fs) : Steps p.tables e below (T.setTop (mkF m pc Ls (.int z :: rest))) (T.setFrames fs) := by
  have hm' : T.vm.method? m = some meth := X.method'
  have hn : narrow .int (.int z) = .int z := rfl
  show Steps p.tables e below (T.setTop { method := m, pc := pc, locals := Ls, stack := _ :: rest, locked := none }) _
  jvm_step X.here [X.here.top, hx, hd, hm', hret, hn]
  first | (intro acts; rw [hl _ acts rfl rfl rfl]) | rw [hl _ _ rfl rfl rfl]
  exact Steps.refl _
/-- from here the run comes to an end of which Po says something -/
def Gl (p : Program) (e : Env) (below : List Frame) (Po : State → Outcome → Prop) (T : State) (g : JFrame) : Prop := ∃ s₂ o, Steps p.tables e below (T.setTop g) s₂ ∧ s₂.status = .running ∧ Ended s₂ below o ∧ Po s₂ o
def Pos (C S : Nat) (Q : Option Value → Heap → List Loc → Prop) (s : State) (U : State) (o : Outcome) : Prop := ∃ v L, o = .returned v ∧ Q v U.heap L ∧ FrameEnd s o U L C S
theorem Gl.by {Po : State → Outcome → Prop} {T' : State} {g g' : JFrame} (st : ∀ t, Steps p.tables e below (T'.setTop g') t → Steps p.tables e below (T.setTop g) t) (h : Gl p e below Po T' g') : Gl p e below Po T g := by
  obtain ⟨a, o, k, r⟩ := h
  exact ⟨a, o, st _ k, r⟩
theorem Gl.cast {Po : State → Outcome → Prop} {g g' : JFrame} (q : g = g') (h : Gl p e below Po T g') : Gl p e below Po T g := q ▸ h
theorem Gl.outN (X : Stand p l e R s m args below meth c T locs cells slots) (hx : p.tables.exec = Jvm.exec) (hk : meth.locks = false) {pc : Nat} {Ls : Array Slot} {z : Int32} {t : FieldType} {rest : List Value} (hret : meth.sig.returnType = some t) (ht : t = .boolean ∨ t = .byte ∨ t = .char ∨ t = .short)
    (hd : decode c.code pc = .ok (.ireturn, 1)) {C S : Nat} {Q : Option Value → Heap → List Loc → Prop} (hQ : Q (some (.int (nar t z))) T.heap locs) (hc : cells ≤ C) (hs : slots ≤ S) : Gl p e below (Pos C S Q s) T (mkF m pc Ls (.int z :: rest)) := by
  obtain ⟨fs, hr, hrun, hended, hW, hsame⟩ := X.leave (v := some (.int (nar t z))) (fun h => by rw [hret] at h; cases h) hk
  exact ⟨_, _, retN X hx hret ht hd hr, hrun, hended, _, _, rfl, hQ, ⟨_, rfl⟩, hW, hsame.mono hc hs⟩
theorem Gl.outI (X : Stand p l e R s m args below meth c T locs cells slots) (hx : p.tables.exec = Jvm.exec) (hk : meth.locks = false) {pc : Nat} {Ls : Array Slot} {z : Int32} {rest : List Value} (hret : meth.sig.returnType = some .int)
    (hd : decode c.code pc = .ok (.ireturn, 1)) {C S : Nat} {Q : Option Value → Heap → List Loc → Prop} (hQ : Q (some (.int z)) T.heap locs) (hc : cells ≤ C) (hs : slots ≤ S) : Gl p e below (Pos C S Q s) T (mkF m pc Ls (.int z :: rest)) := by
  obtain ⟨fs, hr, hrun, hended, hW, hsame⟩ := X.leave (v := some (.int z)) (fun h => by rw [hret] at h; cases h) hk
  exact ⟨_, _, retI X hx hret hd hr, hrun, hended, _, _, rfl, hQ, ⟨_, rfl⟩, hW, hsame.mono hc hs⟩
theorem Gl.outJ (X : Stand p l e R s m args below meth c T locs cells slots) (hx : p.tables.exec = Jvm.exec) (hk : meth.locks = false) {pc : Nat} {Ls : Array Slot} {z : Int64} {rest : List Value} (hret : meth.sig.returnType = some .long)
    (hd : decode c.code pc = .ok (.lreturn, 1)) {C S : Nat} {Q : Option Value → Heap → List Loc → Prop} (hQ : Q (some (.long z)) T.heap locs) (hc : cells ≤ C) (hs : slots ≤ S) : Gl p e below (Pos C S Q s) T (mkF m pc Ls (.long z :: rest)) := by
  obtain ⟨fs, hr, hrun, hended, hW, hsame⟩ := X.leave (v := some (.long z)) (fun h => by rw [hret] at h; cases h) hk
  exact ⟨_, _, retOut X hx hret rfl (Or.inr (Or.inl ⟨rfl, rfl, _, rfl⟩)) hd hr, hrun, hended, _, _, rfl, hQ, ⟨_, rfl⟩, hW, hsame.mono hc hs⟩
theorem Gl.outD (X : Stand p l e R s m args below meth c T locs cells slots) (hx : p.tables.exec = Jvm.exec) (hk : meth.locks = false) {pc : Nat} {Ls : Array Slot} {z : UInt64} {rest : List Value} (hret : meth.sig.returnType = some .double)
    (hd : decode c.code pc = .ok (.dreturn, 1)) {C S : Nat} {Q : Option Value → Heap → List Loc → Prop} (hQ : Q (some (.double z)) T.heap locs) (hc : cells ≤ C) (hs : slots ≤ S) : Gl p e below (Pos C S Q s) T (mkF m pc Ls (.double z :: rest)) := by
  obtain ⟨fs, hr, hrun, hended, hW, hsame⟩ := X.leave (v := some (.double z)) (fun h => by rw [hret] at h; cases h) hk
  exact ⟨_, _, retOut X hx hret rfl (Or.inr (Or.inr (Or.inl ⟨rfl, rfl, _, rfl⟩))) hd hr, hrun, hended, _, _, rfl, hQ, ⟨_, rfl⟩, hW, hsame.mono hc hs⟩
theorem Gl.outA (X : Stand p l e R s m args below meth c T locs cells slots) (hx : p.tables.exec = Jvm.exec) (hk : meth.locks = false) {pc : Nat} {Ls : Array Slot} {w : Value} {t : FieldType} {rest : List Value} (hret : meth.sig.returnType = some t) (ht : t.isReference = true) (hw : w.isRef = true)
    (hd : decode c.code pc = .ok (.areturn, 1)) {C S : Nat} {Q : Option Value → Heap → List Loc → Prop} (hQ : Q (some w) T.heap locs) (hc : cells ≤ C) (hs : slots ≤ S) : Gl p e below (Pos C S Q s) T (mkF m pc Ls (w :: rest)) := by
  obtain ⟨fs, hr, hrun, hended, hW, hsame⟩ := X.leave (v := some w) (fun h => by rw [hret] at h; cases h) hk
  exact ⟨_, _, retOut X hx hret (by rcases ref_cases hw with rfl | ⟨a, rfl⟩ <;> cases t <;> first | rfl | (cases ht; done)) (Or.inr (Or.inr (Or.inr (Or.inr ⟨rfl, ht, hw⟩)))) hd hr, hrun, hended, _, _, rfl, hQ, ⟨_, rfl⟩, hW, hsame.mono hc hs⟩
theorem Gl.outV (X : Stand p l e R s m args below meth c T locs cells slots) (hx : p.tables.exec = Jvm.exec) (hk : meth.locks = false) {pc : Nat} {Ls : Array Slot} (hret : meth.sig.returnType = none)
    (hd : decode c.code pc = .ok (.return_, 1)) {C S : Nat} {Q : Option Value → Heap → List Loc → Prop} (hQ : Q none T.heap locs) (hc : cells ≤ C) (hs : slots ≤ S) : Gl p e below (Pos C S Q s) T (mkF m pc Ls []) := by
  obtain ⟨fs, hr, hrun, hended, hW, hsame⟩ := X.leave (v := none) (fun _ => rfl) hk
  exact ⟨_, _, X.returnOut hx hret hd hr, hrun, hended, _, _, rfl, hQ, ⟨_, rfl⟩, hW, hsame.mono hc hs⟩
def PosW (C S : Nat) (Q : Option Value → Heap → List Loc → Prop) (s : State) (U : State) (o : Outcome) : Prop := ∃ v L, o = .returned v ∧ Q v U.heap L ∧ ReturnedEndW s o U L C S
theorem ReturnedEndW.mono {s t : State} {o : Outcome} {L : List Loc} {k n k' n' : Nat} (h : ReturnedEndW s o t L k n) (hk : k ≤ k') (hn : n ≤ n') : ReturnedEndW s o t L k' n' := ⟨h.1, h.2.1, h.2.2.1, h.2.2.2.mono hk hn⟩
section Wide
variable {vm₁ : Vm} {n₁ : Nat}
theorem Gl.outNW (X : Stand p l e R (s.setVm vm₁) m args below meth c T locs cells slots) (hS : s.Since vm₁ n₁) (hn : n₁ ≤ T.heap.size) (hx : p.tables.exec = Jvm.exec) (hk : meth.locks = false) {pc : Nat} {Ls : Array Slot} {z : Int32} {t : FieldType} {rest : List Value} (hret : meth.sig.returnType = some t) (ht : t = .boolean ∨ t = .byte ∨ t = .char ∨ t = .short)
    (hd : decode c.code pc = .ok (.ireturn, 1)) {C S : Nat} {Q : Option Value → Heap → List Loc → Prop} (hQ : Q (some (.int (nar t z))) T.heap locs) (hc : cells ≤ C) (hs : slots ≤ S) : Gl p e below (PosW C S Q s) T (mkF m pc Ls (.int z :: rest)) := by
  obtain ⟨fs, hr, hrun, hended, hW⟩ := X.leaveW hS hn (v := some (.int (nar t z))) (fun h => by rw [hret] at h; cases h) hk
  exact ⟨_, _, retN X hx hret ht hd hr, hrun, hended, _, _, rfl, hQ, ReturnedEndW.mono hW hc hs⟩
theorem Gl.outIW (X : Stand p l e R (s.setVm vm₁) m args below meth c T locs cells slots) (hS : s.Since vm₁ n₁) (hn : n₁ ≤ T.heap.size) (hx : p.tables.exec = Jvm.exec) (hk : meth.locks = false) {pc : Nat} {Ls : Array Slot} {z : Int32} {rest : List Value} (hret : meth.sig.returnType = some .int)
    (hd : decode c.code pc = .ok (.ireturn, 1)) {C S : Nat} {Q : Option Value → Heap → List Loc → Prop} (hQ : Q (some (.int z)) T.heap locs) (hc : cells ≤ C) (hs : slots ≤ S) : Gl p e below (PosW C S Q s) T (mkF m pc Ls (.int z :: rest)) := by
  obtain ⟨fs, hr, hrun, hended, hW⟩ := X.leaveW hS hn (v := some (.int z)) (fun h => by rw [hret] at h; cases h) hk
  exact ⟨_, _, retI X hx hret hd hr, hrun, hended, _, _, rfl, hQ, ReturnedEndW.mono hW hc hs⟩
theorem Gl.outAW (X : Stand p l e R (s.setVm vm₁) m args below meth c T locs cells slots) (hS : s.Since vm₁ n₁) (hn : n₁ ≤ T.heap.size) (hx : p.tables.exec = Jvm.exec) (hk : meth.locks = false) {pc : Nat} {Ls : Array Slot} {w : Value} {t : FieldType} {rest : List Value} (hret : meth.sig.returnType = some t) (ht : t.isReference = true) (hw : w.isRef = true)
    (hd : decode c.code pc = .ok (.areturn, 1)) {C S : Nat} {Q : Option Value → Heap → List Loc → Prop} (hQ : Q (some w) T.heap locs) (hc : cells ≤ C) (hs : slots ≤ S) : Gl p e below (PosW C S Q s) T (mkF m pc Ls (w :: rest)) := by
  obtain ⟨fs, hr, hrun, hended, hW⟩ := X.leaveW hS hn (v := some w) (fun h => by rw [hret] at h; cases h) hk
  exact ⟨_, _, retOut X hx hret (by rcases ref_cases hw with rfl | ⟨a, rfl⟩ <;> cases t <;> first | rfl | (cases ht; done)) (Or.inr (Or.inr (Or.inr (Or.inr ⟨rfl, ht, hw⟩)))) hd hr, hrun, hended, _, _, rfl, hQ, ReturnedEndW.mono hW hc hs⟩
theorem Gl.outVW (X : Stand p l e R (s.setVm vm₁) m args below meth c T locs cells slots) (hS : s.Since vm₁ n₁) (hn : n₁ ≤ T.heap.size) (hx : p.tables.exec = Jvm.exec) (hk : meth.locks = false) {pc : Nat} {Ls : Array Slot} (hret : meth.sig.returnType = none)
    (hd : decode c.code pc = .ok (.return_, 1)) {C S : Nat} {Q : Option Value → Heap → List Loc → Prop} (hQ : Q none T.heap locs) (hc : cells ≤ C) (hs : slots ≤ S) : Gl p e below (PosW C S Q s) T (mkF m pc Ls []) := by
  obtain ⟨fs, hr, hrun, hended, hW⟩ := X.leaveW hS hn (v := none) (fun _ => rfl) hk
  exact ⟨_, _, X.returnOut hx hret hd hr, hrun, hended, _, _, rfl, hQ, ReturnedEndW.mono hW hc hs⟩
end Wide
theorem eqI_v {args : Array Value} {first s : State} {o : Option Outcome} {idx : List Nat} {t : Term} {k : Int32} (h : (Cond.eq t (.int k)).value args first o s idx = some true) : t.eval args first o idx s = some (.int k) := by
  simp only [Cond.value, Term.eval] at h
  cases ht : t.eval args first o idx s with
  | none => simp [ht] at h
  | some x => cases x <;> simp [ht] at h ⊢; exact h
end New
end Jvm.RoadKit
namespace Jvm.Pilot.@@N@@
open Jvm Jvm.ClassFile Sem Op Lib Jvm.Free Jvm.Stand Jvm.LawKit Jvm.RoadKit Bundle Jvm.Pilot.@@N@@.Jvm.D
theorem b53i (x : Int32) : B53 x.toInt64 := by
  have h := rng32 x
  have q := c_i2l x
  unfold B53
  omega
theorem b53a (x y : Int32) : B53 (x.toInt64 + y.toInt64) := by
  have h := rng32 x
  have h' := rng32 y
  have q := add64 (b53i x) (b53i y)
  have q1 := c_i2l x
  have q2 := c_i2l y
  unfold B53
  omega
theorem d1_0 : decode prog_4_method_1_code 0 = .ok (.aload_n 0, 1) := by decide +kernel
theorem d1_1 : decode prog_4_method_1_code 1 = .ok (.invokespecial 1, 3) := by decide +kernel
theorem d1_4 : decode prog_4_method_1_code 4 = .ok (.aload_n 0, 1) := by decide +kernel
theorem d1_5 : decode prog_4_method_1_code 5 = .ok (.dload_n 1, 1) := by decide +kernel
theorem d1_6 : decode prog_4_method_1_code 6 = .ok (.putfield 7, 3) := by decide +kernel
theorem d1_9 : decode prog_4_method_1_code 9 = .ok (.aload_n 0, 1) := by decide +kernel
theorem d1_10 : decode prog_4_method_1_code 10 = .ok (.dload_n 3, 1) := by decide +kernel
theorem d1_11 : decode prog_4_method_1_code 11 = .ok (.putfield 13, 3) := by decide +kernel
theorem d1_14 : decode prog_4_method_1_code 14 = .ok (.aload_n 0, 1) := by decide +kernel
theorem d1_15 : decode prog_4_method_1_code 15 = .ok (.dload 5, 2) := by decide +kernel
theorem d1_17 : decode prog_4_method_1_code 17 = .ok (.putfield 16, 3) := by decide +kernel
theorem d1_20 : decode prog_4_method_1_code 20 = .ok (.aload_n 0, 1) := by decide +kernel
theorem d1_21 : decode prog_4_method_1_code 21 = .ok (.dload 7, 2) := by decide +kernel
theorem d1_23 : decode prog_4_method_1_code 23 = .ok (.putfield 19, 3) := by decide +kernel
theorem d1_26 : decode prog_4_method_1_code 26 = .ok (.return_, 1) := by decide +kernel
theorem pn0 : plainName "com/example/evo_layout/evolayout/drawing/Box" = true := by first | (simp [plainName, overriddenIn]; done) | decide +kernel
theorem pd15 : parseMethodDescriptor "()V" = some ⟨[], none⟩ := by decide +kernel
theorem ef1 (m : MethodId) (x0 : Addr) (x1 : UInt64) (x2 : UInt64) (x3 : UInt64) (x4 : UInt64) : entryFrame m #[(.ref x0), (.double x1), (.double x2), (.double x3), (.double x4)] 9 = mkF m 0 #[.val (.ref x0), .val (.double x1), .second, .val (.double x2), .second, .val (.double x3), .second, .val (.double x4), .second] [] := by first | (simp [entryFrame, mkF, argsToLocals, Value.category]; done) | rfl
def Q1 (Z : State) (a0 : Addr) (d1 : UInt64) (d2 : UInt64) (d3 : UInt64) (d4 : UInt64) (h0 : Heap) (n0 : Nat) (v : Option Value) (h : Heap) (L : List Loc) : Prop := v = none ∧ Fr n0 L ∧ Keep h0 h [a0] ∧ Fld Z h a0 "com/example/evo_layout/evolayout/drawing/Box" "x" "D" (.double d1) ∧ Fld Z h a0 "com/example/evo_layout/evolayout/drawing/Box" "y" "D" (.double d2) ∧ Fld Z h a0 "com/example/evo_layout/evolayout/drawing/Box" "width" "D" (.double d3) ∧ Fld Z h a0 "com/example/evo_layout/evolayout/drawing/Box" "height" "D" (.double d4)
set_option maxRecDepth 65536 in
set_option maxHeartbeats 40000000 in
theorem rm1 (l : Launch) (Z : State) (a0' : Array Value) (hw : ∀ d ∈ tables_1, d.before a0' Z = true) (ws : List Jvm.Cond) (a0 : Addr) (d1 : UInt64) (d2 : UInt64) (d3 : UInt64) (d4 : UInt64) (h0 : Heap) (n0 : Nat) (O : Old Z n0 h0)  (pf0 : Exa Z h0 a0 "com/example/evo_layout/evolayout/drawing/Box") (pf1 : Fld Z h0 a0 "com/example/evo_layout/evolayout/drawing/Box" "x" "D" (.double (0 : UInt64))) (pf2 : Fld Z h0 a0 "com/example/evo_layout/evolayout/drawing/Box" "y" "D" (.double (0 : UInt64))) (pf3 : Fld Z h0 a0 "com/example/evo_layout/evolayout/drawing/Box" "width" "D" (.double (0 : UInt64))) (pf4 : Fld Z h0 a0 "com/example/evo_layout/evolayout/drawing/Box" "height" "D" (.double (0 : UInt64))) (gp_a0 : n0 ≤ a0) :
    MetFree l (⟨"com/example/evo_layout/evolayout/drawing/Box", "<init>", "(DDDD)V"⟩ : MethodName) (head1 (Jvm.Cond.code (⟨"com/example/evo_layout/evolayout/drawing/Box", "<init>", "(DDDD)V"⟩ : MethodName) prog_4_method_1_code 9 none :: ws) ({ frames := 1, cells := 0, slots := 0, locals := 12 } : Room)) (fun a U => a = #[(.ref a0), (.double d1), (.double d2), (.double d3), (.double d4)] ∧ Z.Warmed39 U.vm ∧ U.heap = h0) (fun _ _ _ _ _ => True) (fun _ U o U' => ∃ v L, o = .returned v ∧ Q1 Z a0 d1 d2 d3 d4  h0 n0 v U'.heap L ∧ FrameEnd U o U' L ({ frames := 1, cells := 0, slots := 0, locals := 12 } : Room).cells ({ frames := 1, cells := 0, slots := 0, locals := 12 } : Room).slots) := by
  refine MetFree.of_bodySF (plainFor_of_name pn0) hisR ?_
  intro p e s m args below meth c s₁ Bd hml0 hP hK
  obtain ⟨rfl, hZ, hh⟩ := hP
  have hx := Bd.exec
  have hby := Bd.bytes
  have hml : c.maxLocals = 9 := hml0
  have hown : s.vm.findClass "com/example/evo_layout/evolayout/drawing/Box" = some m.cls := findClass_of_methodNamed Bd.named
  have hnm := (name_of_methodNamed Bd.named Bd.method).1
  have hk := Bd.notSynchronized
  have X0 : Stand p l e ({ frames := 1, cells := 0, slots := 0, locals := 12 } : Room) s m #[(.ref a0), (.double d1), (.double d2), (.double d3), (.double d4)] below meth c s₁ [] 0 0 := Stand.of_body Bd
  have hh2 := hh
  have e0 : s₁.heap = h0 := by rw [← hh, Bd.state]; rfl
  have N0 := Fr.nil n0
  show Gl p e below (Pos 0 0 (Q1 Z a0 d1 d2 d3 d4  h0 n0) s) s₁ _
  refine Gl.cast (ef1 m a0 d1 d2 d3 d4) ?_
  refine Gl.by (g' := (mkF m 1 #[.val (.ref a0), .val (.double d1), .second, .val (.double d2), .second, .val (.double d3), .second, .val (.double d4), .second] [(.ref a0)])) (fun _ k => XS.aloadN X0.here hx rfl (hb hby d1_0) rfl rfl k) ?_
  obtain ⟨T1, X1, e1, st1⟩ := initO X0 hx hZ hown (hw _ (List.mem_of_getElem? (i := 6) rfl)) (hw _ (List.mem_of_getElem? (i := 7) rfl)) (hw _ (List.mem_of_getElem? (i := 8) rfl)) e0 (g := (mkF m 1 #[.val (.ref a0), .val (.double d1), .second, .val (.double d2), .second, .val (.double d3), .second, .val (.double d4), .second] [(.ref a0)])) rfl (by rw [hml]; rfl) rfl (hb hby d1_1) (by decide) (W := 0) (by show 2 * 0 + _ ≤ _; exact Nat.le_of_eq rfl) (by decide)
  refine Gl.by (g' := (mkF m 4 #[.val (.ref a0), .val (.double d1), .second, .val (.double d2), .second, .val (.double d3), .second, .val (.double d4), .second] [])) st1 ?_
  refine Gl.by (g' := (mkF m 5 #[.val (.ref a0), .val (.double d1), .second, .val (.double d2), .second, .val (.double d3), .second, .val (.double d4), .second] [(.ref a0)])) (fun _ k => XS.aloadN X1.here hx rfl (hb hby d1_4) rfl rfl k) ?_
  refine Gl.by (g' := (mkF m 6 #[.val (.ref a0), .val (.double d1), .second, .val (.double d2), .second, .val (.double d3), .second, .val (.double d4), .second] [(.double d1), (.ref a0)])) (fun _ k => XS.dloadN X1.here hx rfl (hb hby d1_5) rfl k) ?_
  obtain ⟨T2, h2, X2, e2, W2, st2⟩ := putF X1 hx hZ hown (host := "") (Or.inl (hw _ (List.mem_of_getElem? (i := 9) rfl))) Via.refl e1 pf1 pf0 (Or.inr ⟨(hw _ (List.mem_of_getElem? (i := 10) rfl)), rfl, hnm⟩) (hw _ (List.mem_of_getElem? (i := 1) rfl)) (ty := .double) (by decide) rfl rfl (g := (mkF m 6 #[.val (.ref a0), .val (.double d1), .second, .val (.double d2), .second, .val (.double d3), .second, .val (.double d4), .second] [(.double d1), (.ref a0)])) rfl rfl (hb hby d1_6)
  have N2 := Fr.snoc X2 N0 gp_a0
  have Fw2 := Fld.same W2 pf1
  refine Gl.by (g' := (mkF m 9 #[.val (.ref a0), .val (.double d1), .second, .val (.double d2), .second, .val (.double d3), .second, .val (.double d4), .second] [])) st2 ?_
  refine Gl.by (g' := (mkF m 10 #[.val (.ref a0), .val (.double d1), .second, .val (.double d2), .second, .val (.double d3), .second, .val (.double d4), .second] [(.ref a0)])) (fun _ k => XS.aloadN X2.here hx rfl (hb hby d1_9) rfl rfl k) ?_
  refine Gl.by (g' := (mkF m 11 #[.val (.ref a0), .val (.double d1), .second, .val (.double d2), .second, .val (.double d3), .second, .val (.double d4), .second] [(.double d2), (.ref a0)])) (fun _ k => XS.dloadN X2.here hx rfl (hb hby d1_10) rfl k) ?_
  have f3 := (Exa.wr W2 pf0)
  have f4 := (Fld.other W2 pf2 (Or.inr (slot_ne (Or.inr (hw _ (List.mem_of_getElem? (i := 12) rfl))) (Or.inr (hw _ (List.mem_of_getElem? (i := 10) rfl))) (by decide) (t := .double) (t' := .double) (by decide) (by decide))))
  obtain ⟨T5, h5, X5, e5, W5, st5⟩ := putF X2 hx hZ hown (host := "") (Or.inl (hw _ (List.mem_of_getElem? (i := 11) rfl))) Via.refl e2 f4 f3 (Or.inr ⟨(hw _ (List.mem_of_getElem? (i := 12) rfl)), rfl, hnm⟩) (hw _ (List.mem_of_getElem? (i := 1) rfl)) (ty := .double) (by decide) rfl rfl (g := (mkF m 11 #[.val (.ref a0), .val (.double d1), .second, .val (.double d2), .second, .val (.double d3), .second, .val (.double d4), .second] [(.double d2), (.ref a0)])) rfl rfl (hb hby d1_11)
  have N5 := Fr.snoc X5 N2 gp_a0
  have Fw5 := Fld.same W5 f4
  refine Gl.by (g' := (mkF m 14 #[.val (.ref a0), .val (.double d1), .second, .val (.double d2), .second, .val (.double d3), .second, .val (.double d4), .second] [])) st5 ?_
  refine Gl.by (g' := (mkF m 15 #[.val (.ref a0), .val (.double d1), .second, .val (.double d2), .second, .val (.double d3), .second, .val (.double d4), .second] [(.ref a0)])) (fun _ k => XS.aloadN X5.here hx rfl (hb hby d1_14) rfl rfl k) ?_
  refine Gl.by (g' := (mkF m 17 #[.val (.ref a0), .val (.double d1), .second, .val (.double d2), .second, .val (.double d3), .second, .val (.double d4), .second] [(.double d3), (.ref a0)])) (fun _ k => XS.dload X5.here hx rfl (hb hby d1_15) rfl k) ?_
  have f6 := (Exa.wr W5 f3)
  have f7 := (Fld.other W5 (Fld.other W2 pf3 (Or.inr (slot_ne (Or.inr (hw _ (List.mem_of_getElem? (i := 14) rfl))) (Or.inr (hw _ (List.mem_of_getElem? (i := 10) rfl))) (by decide) (t := .double) (t' := .double) (by decide) (by decide)))) (Or.inr (slot_ne (Or.inr (hw _ (List.mem_of_getElem? (i := 14) rfl))) (Or.inr (hw _ (List.mem_of_getElem? (i := 12) rfl))) (by decide) (t := .double) (t' := .double) (by decide) (by decide))))
  obtain ⟨T8, h8, X8, e8, W8, st8⟩ := putF X5 hx hZ hown (host := "") (Or.inl (hw _ (List.mem_of_getElem? (i := 13) rfl))) Via.refl e5 f7 f6 (Or.inr ⟨(hw _ (List.mem_of_getElem? (i := 14) rfl)), rfl, hnm⟩) (hw _ (List.mem_of_getElem? (i := 1) rfl)) (ty := .double) (by decide) rfl rfl (g := (mkF m 17 #[.val (.ref a0), .val (.double d1), .second, .val (.double d2), .second, .val (.double d3), .second, .val (.double d4), .second] [(.double d3), (.ref a0)])) rfl rfl (hb hby d1_17)
  have N8 := Fr.snoc X8 N5 gp_a0
  have Fw8 := Fld.same W8 f7
  refine Gl.by (g' := (mkF m 20 #[.val (.ref a0), .val (.double d1), .second, .val (.double d2), .second, .val (.double d3), .second, .val (.double d4), .second] [])) st8 ?_
  refine Gl.by (g' := (mkF m 21 #[.val (.ref a0), .val (.double d1), .second, .val (.double d2), .second, .val (.double d3), .second, .val (.double d4), .second] [(.ref a0)])) (fun _ k => XS.aloadN X8.here hx rfl (hb hby d1_20) rfl rfl k) ?_
  refine Gl.by (g' := (mkF m 23 #[.val (.ref a0), .val (.double d1), .second, .val (.double d2), .second, .val (.double d3), .second, .val (.double d4), .second] [(.double d4), (.ref a0)])) (fun _ k => XS.dload X8.here hx rfl (hb hby d1_21) rfl k) ?_
  have f9 := (Exa.wr W8 f6)
  have f10 := (Fld.other W8 (Fld.other W5 (Fld.other W2 pf4 (Or.inr (slot_ne (Or.inr (hw _ (List.mem_of_getElem? (i := 16) rfl))) (Or.inr (hw _ (List.mem_of_getElem? (i := 10) rfl))) (by decide) (t := .double) (t' := .double) (by decide) (by decide)))) (Or.inr (slot_ne (Or.inr (hw _ (List.mem_of_getElem? (i := 16) rfl))) (Or.inr (hw _ (List.mem_of_getElem? (i := 12) rfl))) (by decide) (t := .double) (t' := .double) (by decide) (by decide)))) (Or.inr (slot_ne (Or.inr (hw _ (List.mem_of_getElem? (i := 16) rfl))) (Or.inr (hw _ (List.mem_of_getElem? (i := 14) rfl))) (by decide) (t := .double) (t' := .double) (by decide) (by decide))))
  obtain ⟨T11, h11, X11, e11, W11, st11⟩ := putF X8 hx hZ hown (host := "") (Or.inl (hw _ (List.mem_of_getElem? (i := 15) rfl))) Via.refl e8 f10 f9 (Or.inr ⟨(hw _ (List.mem_of_getElem? (i := 16) rfl)), rfl, hnm⟩) (hw _ (List.mem_of_getElem? (i := 1) rfl)) (ty := .double) (by decide) rfl rfl (g := (mkF m 23 #[.val (.ref a0), .val (.double d1), .second, .val (.double d2), .second, .val (.double d3), .second, .val (.double d4), .second] [(.double d4), (.ref a0)])) rfl rfl (hb hby d1_23)
  have N11 := Fr.snoc X11 N8 gp_a0
  have Fw11 := Fld.same W11 f10
  refine Gl.by (g' := (mkF m 26 #[.val (.ref a0), .val (.double d1), .second, .val (.double d2), .second, .val (.double d3), .second, .val (.double d4), .second] [])) st11 ?_
  have K12 := (((((Keep.refl h0 [a0]).wr W2 (Or.inl (List.mem_of_getElem? (i := 0) rfl))).wr W5 (Or.inl (List.mem_of_getElem? (i := 0) rfl))).wr W8 (Or.inl (List.mem_of_getElem? (i := 0) rfl))).wr W11 (Or.inl (List.mem_of_getElem? (i := 0) rfl)))
  have f13 := (Fld.other W11 (Fld.other W8 (Fld.other W5 Fw2 (Or.inr (slot_ne (Or.inr (hw _ (List.mem_of_getElem? (i := 10) rfl))) (Or.inr (hw _ (List.mem_of_getElem? (i := 12) rfl))) (by decide) (t := .double) (t' := .double) (by decide) (by decide)))) (Or.inr (slot_ne (Or.inr (hw _ (List.mem_of_getElem? (i := 10) rfl))) (Or.inr (hw _ (List.mem_of_getElem? (i := 14) rfl))) (by decide) (t := .double) (t' := .double) (by decide) (by decide)))) (Or.inr (slot_ne (Or.inr (hw _ (List.mem_of_getElem? (i := 10) rfl))) (Or.inr (hw _ (List.mem_of_getElem? (i := 16) rfl))) (by decide) (t := .double) (t' := .double) (by decide) (by decide))))
  have f14 := (Fld.other W11 (Fld.other W8 Fw5 (Or.inr (slot_ne (Or.inr (hw _ (List.mem_of_getElem? (i := 12) rfl))) (Or.inr (hw _ (List.mem_of_getElem? (i := 14) rfl))) (by decide) (t := .double) (t' := .double) (by decide) (by decide)))) (Or.inr (slot_ne (Or.inr (hw _ (List.mem_of_getElem? (i := 12) rfl))) (Or.inr (hw _ (List.mem_of_getElem? (i := 16) rfl))) (by decide) (t := .double) (t' := .double) (by decide) (by decide))))
  have f15 := (Fld.other W11 Fw8 (Or.inr (slot_ne (Or.inr (hw _ (List.mem_of_getElem? (i := 14) rfl))) (Or.inr (hw _ (List.mem_of_getElem? (i := 16) rfl))) (by decide) (t := .double) (t' := .double) (by decide) (by decide))))
  exact Gl.outV X11 hx hk Bd.returns (hb hby d1_26) (Eq.mpr (congrArg (fun hh => Q1 Z a0 d1 d2 d3 d4  h0 n0 _ hh _) e11) (show Q1 Z a0 d1 d2 d3 d4  h0 n0 _ h11 _ from ⟨rfl, N11, K12, f13, f14, f15, Fw11⟩)) (by decide) (by decide)
theorem d3_0 : decode prog_8_method_1_code 0 = .ok (.aload_n 0, 1) := by decide +kernel
theorem d3_1 : decode prog_8_method_1_code 1 = .ok (.invokespecial 1, 3) := by decide +kernel
theorem d3_4 : decode prog_8_method_1_code 4 = .ok (.aload_n 0, 1) := by decide +kernel
theorem d3_5 : decode prog_8_method_1_code 5 = .ok (.dload_n 1, 1) := by decide +kernel
theorem d3_6 : decode prog_8_method_1_code 6 = .ok (.putfield 7, 3) := by decide +kernel
theorem d3_9 : decode prog_8_method_1_code 9 = .ok (.aload_n 0, 1) := by decide +kernel
theorem d3_10 : decode prog_8_method_1_code 10 = .ok (.dload_n 3, 1) := by decide +kernel
theorem d3_11 : decode prog_8_method_1_code 11 = .ok (.putfield 13, 3) := by decide +kernel
theorem d3_14 : decode prog_8_method_1_code 14 = .ok (.return_, 1) := by decide +kernel
theorem pn1 : plainName "com/example/evo_layout/evolayout/drawing/Point" = true := by first | (simp [plainName, overriddenIn]; done) | decide +kernel
theorem ef3 (m : MethodId) (x0 : Addr) (x1 : UInt64) (x2 : UInt64) : entryFrame m #[(.ref x0), (.double x1), (.double x2)] 5 = mkF m 0 #[.val (.ref x0), .val (.double x1), .second, .val (.double x2), .second] [] := by first | (simp [entryFrame, mkF, argsToLocals, Value.category]; done) | rfl
def Q3 (Z : State) (a0 : Addr) (d1 : UInt64) (d2 : UInt64) (h0 : Heap) (n0 : Nat) (v : Option Value) (h : Heap) (L : List Loc) : Prop := v = none ∧ Fr n0 L ∧ Keep h0 h [a0] ∧ Fld Z h a0 "com/example/evo_layout/evolayout/drawing/Point" "x" "D" (.double d1) ∧ Fld Z h a0 "com/example/evo_layout/evolayout/drawing/Point" "y" "D" (.double d2)
set_option maxRecDepth 65536 in
set_option maxHeartbeats 40000000 in
theorem rm3 (l : Launch) (Z : State) (a0' : Array Value) (hw : ∀ d ∈ tables_1, d.before a0' Z = true) (ws : List Jvm.Cond) (a0 : Addr) (d1 : UInt64) (d2 : UInt64) (h0 : Heap) (n0 : Nat) (O : Old Z n0 h0)  (pf0 : Exa Z h0 a0 "com/example/evo_layout/evolayout/drawing/Point") (pf1 : Fld Z h0 a0 "com/example/evo_layout/evolayout/drawing/Point" "x" "D" (.double (0 : UInt64))) (pf2 : Fld Z h0 a0 "com/example/evo_layout/evolayout/drawing/Point" "y" "D" (.double (0 : UInt64))) (gp_a0 : n0 ≤ a0) :
    MetFree l (⟨"com/example/evo_layout/evolayout/drawing/Point", "<init>", "(DD)V"⟩ : MethodName) (head1 (Jvm.Cond.code (⟨"com/example/evo_layout/evolayout/drawing/Point", "<init>", "(DD)V"⟩ : MethodName) prog_8_method_1_code 5 none :: ws) ({ frames := 1, cells := 0, slots := 0, locals := 12 } : Room)) (fun a U => a = #[(.ref a0), (.double d1), (.double d2)] ∧ Z.Warmed39 U.vm ∧ U.heap = h0) (fun _ _ _ _ _ => True) (fun _ U o U' => ∃ v L, o = .returned v ∧ Q3 Z a0 d1 d2  h0 n0 v U'.heap L ∧ FrameEnd U o U' L ({ frames := 1, cells := 0, slots := 0, locals := 12 } : Room).cells ({ frames := 1, cells := 0, slots := 0, locals := 12 } : Room).slots) := by
  refine MetFree.of_bodySF (plainFor_of_name pn1) hisR ?_
  intro p e s m args below meth c s₁ Bd hml0 hP hK
  obtain ⟨rfl, hZ, hh⟩ := hP
  have hx := Bd.exec
  have hby := Bd.bytes
  have hml : c.maxLocals = 5 := hml0
  have hown : s.vm.findClass "com/example/evo_layout/evolayout/drawing/Point" = some m.cls := findClass_of_methodNamed Bd.named
  have hnm := (name_of_methodNamed Bd.named Bd.method).1
  have hk := Bd.notSynchronized
  have X0 : Stand p l e ({ frames := 1, cells := 0, slots := 0, locals := 12 } : Room) s m #[(.ref a0), (.double d1), (.double d2)] below meth c s₁ [] 0 0 := Stand.of_body Bd
  have hh2 := hh
  have e0 : s₁.heap = h0 := by rw [← hh, Bd.state]; rfl
  have N0 := Fr.nil n0
  show Gl p e below (Pos 0 0 (Q3 Z a0 d1 d2  h0 n0) s) s₁ _
  refine Gl.cast (ef3 m a0 d1 d2) ?_
  refine Gl.by (g' := (mkF m 1 #[.val (.ref a0), .val (.double d1), .second, .val (.double d2), .second] [(.ref a0)])) (fun _ k => XS.aloadN X0.here hx rfl (hb hby d3_0) rfl rfl k) ?_
  obtain ⟨T1, X1, e1, st1⟩ := initO X0 hx hZ hown (hw _ (List.mem_of_getElem? (i := 23) rfl)) (hw _ (List.mem_of_getElem? (i := 7) rfl)) (hw _ (List.mem_of_getElem? (i := 8) rfl)) e0 (g := (mkF m 1 #[.val (.ref a0), .val (.double d1), .second, .val (.double d2), .second] [(.ref a0)])) rfl (by rw [hml]; rfl) rfl (hb hby d3_1) (by decide) (W := 0) (by show 2 * 0 + _ ≤ _; exact Nat.le_of_eq rfl) (by decide)
  refine Gl.by (g' := (mkF m 4 #[.val (.ref a0), .val (.double d1), .second, .val (.double d2), .second] [])) st1 ?_
  refine Gl.by (g' := (mkF m 5 #[.val (.ref a0), .val (.double d1), .second, .val (.double d2), .second] [(.ref a0)])) (fun _ k => XS.aloadN X1.here hx rfl (hb hby d3_4) rfl rfl k) ?_
  refine Gl.by (g' := (mkF m 6 #[.val (.ref a0), .val (.double d1), .second, .val (.double d2), .second] [(.double d1), (.ref a0)])) (fun _ k => XS.dloadN X1.here hx rfl (hb hby d3_5) rfl k) ?_
  obtain ⟨T2, h2, X2, e2, W2, st2⟩ := putF X1 hx hZ hown (host := "") (Or.inl (hw _ (List.mem_of_getElem? (i := 24) rfl))) Via.refl e1 pf1 pf0 (Or.inr ⟨(hw _ (List.mem_of_getElem? (i := 25) rfl)), rfl, hnm⟩) (hw _ (List.mem_of_getElem? (i := 18) rfl)) (ty := .double) (by decide) rfl rfl (g := (mkF m 6 #[.val (.ref a0), .val (.double d1), .second, .val (.double d2), .second] [(.double d1), (.ref a0)])) rfl rfl (hb hby d3_6)
  have N2 := Fr.snoc X2 N0 gp_a0
  have Fw2 := Fld.same W2 pf1
  refine Gl.by (g' := (mkF m 9 #[.val (.ref a0), .val (.double d1), .second, .val (.double d2), .second] [])) st2 ?_
  refine Gl.by (g' := (mkF m 10 #[.val (.ref a0), .val (.double d1), .second, .val (.double d2), .second] [(.ref a0)])) (fun _ k => XS.aloadN X2.here hx rfl (hb hby d3_9) rfl rfl k) ?_
  refine Gl.by (g' := (mkF m 11 #[.val (.ref a0), .val (.double d1), .second, .val (.double d2), .second] [(.double d2), (.ref a0)])) (fun _ k => XS.dloadN X2.here hx rfl (hb hby d3_10) rfl k) ?_
  have f3 := (Exa.wr W2 pf0)
  have f4 := (Fld.other W2 pf2 (Or.inr (slot_ne (Or.inr (hw _ (List.mem_of_getElem? (i := 27) rfl))) (Or.inr (hw _ (List.mem_of_getElem? (i := 25) rfl))) (by decide) (t := .double) (t' := .double) (by decide) (by decide))))
  obtain ⟨T5, h5, X5, e5, W5, st5⟩ := putF X2 hx hZ hown (host := "") (Or.inl (hw _ (List.mem_of_getElem? (i := 26) rfl))) Via.refl e2 f4 f3 (Or.inr ⟨(hw _ (List.mem_of_getElem? (i := 27) rfl)), rfl, hnm⟩) (hw _ (List.mem_of_getElem? (i := 18) rfl)) (ty := .double) (by decide) rfl rfl (g := (mkF m 11 #[.val (.ref a0), .val (.double d1), .second, .val (.double d2), .second] [(.double d2), (.ref a0)])) rfl rfl (hb hby d3_11)
  have N5 := Fr.snoc X5 N2 gp_a0
  have Fw5 := Fld.same W5 f4
  refine Gl.by (g' := (mkF m 14 #[.val (.ref a0), .val (.double d1), .second, .val (.double d2), .second] [])) st5 ?_
  have K6 := (((Keep.refl h0 [a0]).wr W2 (Or.inl (List.mem_of_getElem? (i := 0) rfl))).wr W5 (Or.inl (List.mem_of_getElem? (i := 0) rfl)))
  have f7 := (Fld.other W5 Fw2 (Or.inr (slot_ne (Or.inr (hw _ (List.mem_of_getElem? (i := 25) rfl))) (Or.inr (hw _ (List.mem_of_getElem? (i := 27) rfl))) (by decide) (t := .double) (t' := .double) (by decide) (by decide))))
  exact Gl.outV X5 hx hk Bd.returns (hb hby d3_14) (Eq.mpr (congrArg (fun hh => Q3 Z a0 d1 d2  h0 n0 _ hh _) e5) (show Q3 Z a0 d1 d2  h0 n0 _ h5 _ from ⟨rfl, N5, K6, f7, Fw5⟩)) (by decide) (by decide)
theorem d5_0 : decode prog_8_method_2_code 0 = .ok (.aload_n 0, 1) := by decide +kernel
theorem d5_1 : decode prog_8_method_2_code 1 = .ok (.getfield 7, 3) := by decide +kernel
theorem d5_4 : decode prog_8_method_2_code 4 = .ok (.dreturn, 1) := by decide +kernel
theorem ef5 (m : MethodId) (x0 : Addr) : entryFrame m #[(.ref x0)] 1 = mkF m 0 #[.val (.ref x0)] [] := by first | (simp [entryFrame, mkF, argsToLocals, Value.category]; done) | rfl
def Q5 (Z : State) (a0 : Addr) (vv : UInt64) (h0 : Heap) (n0 : Nat) (v : Option Value) (h : Heap) (L : List Loc) : Prop := v = some (.double vv) ∧ Fr n0 L ∧ h = h0
set_option maxRecDepth 65536 in
set_option maxHeartbeats 40000000 in
theorem rm5 (l : Launch) (Z : State) (a0' : Array Value) (hw : ∀ d ∈ tables_1, d.before a0' Z = true) (ws : List Jvm.Cond) (a0 : Addr) (vv : UInt64) (h0 : Heap) (n0 : Nat) (O : Old Z n0 h0)  (pf0 : Fld Z h0 a0 "com/example/evo_layout/evolayout/drawing/Point" "x" "D" (.double vv)) :
    MetFree l (⟨"com/example/evo_layout/evolayout/drawing/Point", "x", "()D"⟩ : MethodName) (head1 (Jvm.Cond.code (⟨"com/example/evo_layout/evolayout/drawing/Point", "x", "()D"⟩ : MethodName) prog_8_method_2_code 1 (some .double) :: ws) ({ frames := 0, cells := 0, slots := 0, locals := 0 } : Room)) (fun a U => a = #[(.ref a0)] ∧ Z.Warmed39 U.vm ∧ U.heap = h0) (fun _ _ _ _ _ => True) (fun _ U o U' => ∃ v L, o = .returned v ∧ Q5 Z a0 vv  h0 n0 v U'.heap L ∧ FrameEnd U o U' L ({ frames := 0, cells := 0, slots := 0, locals := 0 } : Room).cells ({ frames := 0, cells := 0, slots := 0, locals := 0 } : Room).slots) := by
  refine MetFree.of_bodySF (plainFor_of_name pn1) hisR ?_
  intro p e s m args below meth c s₁ Bd hml0 hP hK
  obtain ⟨rfl, hZ, hh⟩ := hP
  have hx := Bd.exec
  have hby := Bd.bytes
  have hml : c.maxLocals = 1 := hml0
  have hown : s.vm.findClass "com/example/evo_layout/evolayout/drawing/Point" = some m.cls := findClass_of_methodNamed Bd.named
  have hnm := (name_of_methodNamed Bd.named Bd.method).1
  have hk := Bd.notSynchronized
  have X0 : Stand p l e ({ frames := 0, cells := 0, slots := 0, locals := 0 } : Room) s m #[(.ref a0)] below meth c s₁ [] 0 0 := Stand.of_body Bd
  have hh2 := hh
  have e0 : s₁.heap = h0 := by rw [← hh, Bd.state]; rfl
  have N0 := Fr.nil n0
  show Gl p e below (Pos 0 0 (Q5 Z a0 vv  h0 n0) s) s₁ _
  refine Gl.cast (ef5 m a0) ?_
  refine Gl.by (g' := (mkF m 1 #[.val (.ref a0)] [(.ref a0)])) (fun _ k => XS.aloadN X0.here hx rfl (hb hby d5_0) rfl rfl k) ?_
  obtain ⟨T1, X1, e1, st1⟩ := getF X0 hx hZ hown (host := "") (Or.inl (hw _ (List.mem_of_getElem? (i := 24) rfl))) Via.refl e0 pf0 (g := (mkF m 1 #[.val (.ref a0)] [(.ref a0)])) rfl rfl (hb hby d5_1)
  refine Gl.by (g' := (mkF m 4 #[.val (.ref a0)] [(.double vv)])) st1 ?_
  exact Gl.outD X1 hx hk Bd.returns (hb hby d5_4) ⟨rfl, N0, e1⟩ (by decide) (by decide)
theorem d6_0 : decode prog_8_method_3_code 0 = .ok (.aload_n 0, 1) := by decide +kernel
theorem d6_1 : decode prog_8_method_3_code 1 = .ok (.getfield 13, 3) := by decide +kernel
theorem d6_4 : decode prog_8_method_3_code 4 = .ok (.dreturn, 1) := by decide +kernel
theorem ef6 (m : MethodId) (x0 : Addr) : entryFrame m #[(.ref x0)] 1 = mkF m 0 #[.val (.ref x0)] [] := by first | (simp [entryFrame, mkF, argsToLocals, Value.category]; done) | rfl
def Q6 (Z : State) (a0 : Addr) (vv : UInt64) (h0 : Heap) (n0 : Nat) (v : Option Value) (h : Heap) (L : List Loc) : Prop := v = some (.double vv) ∧ Fr n0 L ∧ h = h0
set_option maxRecDepth 65536 in
set_option maxHeartbeats 40000000 in
theorem rm6 (l : Launch) (Z : State) (a0' : Array Value) (hw : ∀ d ∈ tables_1, d.before a0' Z = true) (ws : List Jvm.Cond) (a0 : Addr) (vv : UInt64) (h0 : Heap) (n0 : Nat) (O : Old Z n0 h0)  (pf0 : Fld Z h0 a0 "com/example/evo_layout/evolayout/drawing/Point" "y" "D" (.double vv)) :
    MetFree l (⟨"com/example/evo_layout/evolayout/drawing/Point", "y", "()D"⟩ : MethodName) (head1 (Jvm.Cond.code (⟨"com/example/evo_layout/evolayout/drawing/Point", "y", "()D"⟩ : MethodName) prog_8_method_3_code 1 (some .double) :: ws) ({ frames := 0, cells := 0, slots := 0, locals := 0 } : Room)) (fun a U => a = #[(.ref a0)] ∧ Z.Warmed39 U.vm ∧ U.heap = h0) (fun _ _ _ _ _ => True) (fun _ U o U' => ∃ v L, o = .returned v ∧ Q6 Z a0 vv  h0 n0 v U'.heap L ∧ FrameEnd U o U' L ({ frames := 0, cells := 0, slots := 0, locals := 0 } : Room).cells ({ frames := 0, cells := 0, slots := 0, locals := 0 } : Room).slots) := by
  refine MetFree.of_bodySF (plainFor_of_name pn1) hisR ?_
  intro p e s m args below meth c s₁ Bd hml0 hP hK
  obtain ⟨rfl, hZ, hh⟩ := hP
  have hx := Bd.exec
  have hby := Bd.bytes
  have hml : c.maxLocals = 1 := hml0
  have hown : s.vm.findClass "com/example/evo_layout/evolayout/drawing/Point" = some m.cls := findClass_of_methodNamed Bd.named
  have hnm := (name_of_methodNamed Bd.named Bd.method).1
  have hk := Bd.notSynchronized
  have X0 : Stand p l e ({ frames := 0, cells := 0, slots := 0, locals := 0 } : Room) s m #[(.ref a0)] below meth c s₁ [] 0 0 := Stand.of_body Bd
  have hh2 := hh
  have e0 : s₁.heap = h0 := by rw [← hh, Bd.state]; rfl
  have N0 := Fr.nil n0
  show Gl p e below (Pos 0 0 (Q6 Z a0 vv  h0 n0) s) s₁ _
  refine Gl.cast (ef6 m a0) ?_
  refine Gl.by (g' := (mkF m 1 #[.val (.ref a0)] [(.ref a0)])) (fun _ k => XS.aloadN X0.here hx rfl (hb hby d6_0) rfl rfl k) ?_
  obtain ⟨T1, X1, e1, st1⟩ := getF X0 hx hZ hown (host := "") (Or.inl (hw _ (List.mem_of_getElem? (i := 26) rfl))) Via.refl e0 pf0 (g := (mkF m 1 #[.val (.ref a0)] [(.ref a0)])) rfl rfl (hb hby d6_1)
  refine Gl.by (g' := (mkF m 4 #[.val (.ref a0)] [(.double vv)])) st1 ?_
  exact Gl.outD X1 hx hk Bd.returns (hb hby d6_4) ⟨rfl, N0, e1⟩ (by decide) (by decide)
theorem d4_0 : decode prog_4_method_7_code 0 = .ok (.aload_n 1, 1) := by decide +kernel
theorem d4_1 : decode prog_4_method_7_code 1 = .ok (.invokevirtual 29, 3) := by decide +kernel
theorem d4_4 : decode prog_4_method_7_code 4 = .ok (.aload_n 0, 1) := by decide +kernel
theorem d4_5 : decode prog_4_method_7_code 5 = .ok (.getfield 7, 3) := by decide +kernel
theorem d4_8 : decode prog_4_method_7_code 8 = .ok (.dcmp .l, 1) := by decide +kernel
theorem d4_9 : decode prog_4_method_7_code 9 = .ok (.ifCond .lt 53, 3) := by decide +kernel
theorem d4_12 : decode prog_4_method_7_code 12 = .ok (.aload_n 1, 1) := by decide +kernel
theorem d4_13 : decode prog_4_method_7_code 13 = .ok (.invokevirtual 29, 3) := by decide +kernel
theorem d4_16 : decode prog_4_method_7_code 16 = .ok (.aload_n 0, 1) := by decide +kernel
theorem d4_17 : decode prog_4_method_7_code 17 = .ok (.getfield 7, 3) := by decide +kernel
theorem d4_20 : decode prog_4_method_7_code 20 = .ok (.aload_n 0, 1) := by decide +kernel
theorem d4_21 : decode prog_4_method_7_code 21 = .ok (.getfield 16, 3) := by decide +kernel
theorem d4_24 : decode prog_4_method_7_code 24 = .ok (.dadd, 1) := by decide +kernel
theorem d4_25 : decode prog_4_method_7_code 25 = .ok (.dcmp .g, 1) := by decide +kernel
theorem d4_26 : decode prog_4_method_7_code 26 = .ok (.ifCond .gt 36, 3) := by decide +kernel
theorem d4_29 : decode prog_4_method_7_code 29 = .ok (.aload_n 1, 1) := by decide +kernel
theorem d4_30 : decode prog_4_method_7_code 30 = .ok (.invokevirtual 32, 3) := by decide +kernel
theorem d4_33 : decode prog_4_method_7_code 33 = .ok (.aload_n 0, 1) := by decide +kernel
theorem d4_34 : decode prog_4_method_7_code 34 = .ok (.getfield 13, 3) := by decide +kernel
theorem d4_37 : decode prog_4_method_7_code 37 = .ok (.dcmp .l, 1) := by decide +kernel
theorem d4_38 : decode prog_4_method_7_code 38 = .ok (.ifCond .lt 24, 3) := by decide +kernel
theorem d4_41 : decode prog_4_method_7_code 41 = .ok (.aload_n 1, 1) := by decide +kernel
theorem d4_42 : decode prog_4_method_7_code 42 = .ok (.invokevirtual 32, 3) := by decide +kernel
theorem d4_45 : decode prog_4_method_7_code 45 = .ok (.aload_n 0, 1) := by decide +kernel
theorem d4_46 : decode prog_4_method_7_code 46 = .ok (.getfield 13, 3) := by decide +kernel
theorem d4_49 : decode prog_4_method_7_code 49 = .ok (.aload_n 0, 1) := by decide +kernel
theorem d4_50 : decode prog_4_method_7_code 50 = .ok (.getfield 19, 3) := by decide +kernel
theorem d4_53 : decode prog_4_method_7_code 53 = .ok (.dadd, 1) := by decide +kernel
theorem d4_54 : decode prog_4_method_7_code 54 = .ok (.dcmp .g, 1) := by decide +kernel
theorem d4_55 : decode prog_4_method_7_code 55 = .ok (.ifCond .gt 7, 3) := by decide +kernel
theorem d4_58 : decode prog_4_method_7_code 58 = .ok (.iconst 1, 1) := by decide +kernel
theorem d4_59 : decode prog_4_method_7_code 59 = .ok (.goto 4, 3) := by decide +kernel
theorem d4_62 : decode prog_4_method_7_code 62 = .ok (.iconst 0, 1) := by decide +kernel
theorem d4_63 : decode prog_4_method_7_code 63 = .ok (.ireturn, 1) := by decide +kernel
theorem pd65 : parseMethodDescriptor "()D" = some ⟨[], some .double⟩ := by decide +kernel
theorem ef4 (m : MethodId) (x0 : Addr) (x1 : Addr) : entryFrame m #[(.ref x0), (.ref x1)] 2 = mkF m 0 #[.val (.ref x0), .val (.ref x1)] [] := by first | (simp [entryFrame, mkF, argsToLocals, Value.category]; done) | rfl
def fn4 (bx : Int32) (bty : Int32) (bw : Int32) (bh : Int32) (px : Int32) (py : Int32) : Int32 := if (px.toInt64) < (bx.toInt64) then (0 : Int32) else if ((bx.toInt64) + (bw.toInt64)) < (px.toInt64) then (0 : Int32) else if (py.toInt64) < (bty.toInt64) then (0 : Int32) else if ((bty.toInt64) + (bh.toInt64)) < (py.toInt64) then (0 : Int32) else (1 : Int32)
def Q4 (Z : State) (a0 : Addr) (a1 : Addr) (bx : Int32) (bty : Int32) (bw : Int32) (bh : Int32) (px : Int32) (py : Int32) (h0 : Heap) (n0 : Nat) (v : Option Value) (h : Heap) (L : List Loc) : Prop := v = some (.int (fn4 bx bty bw bh px py )) ∧ Fr n0 L ∧ h = h0
set_option maxRecDepth 65536 in
set_option maxHeartbeats 40000000 in
theorem rm4 (l : Launch) (Z : State) (a0' : Array Value) (hw : ∀ d ∈ tables_1, d.before a0' Z = true) (ws : List Jvm.Cond) (a0 : Addr) (a1 : Addr) (bx : Int32) (bty : Int32) (bw : Int32) (bh : Int32) (px : Int32) (py : Int32) (h0 : Heap) (n0 : Nat) (O : Old Z n0 h0)  (pf0 : Exa Z h0 a0 "com/example/evo_layout/evolayout/drawing/Box") (pf1 : Exa Z h0 a1 "com/example/evo_layout/evolayout/drawing/Point") (pf2 : Fld Z h0 a0 "com/example/evo_layout/evolayout/drawing/Box" "x" "D" (.double (FP.l2d (bx.toInt64)))) (pf3 : Fld Z h0 a0 "com/example/evo_layout/evolayout/drawing/Box" "y" "D" (.double (FP.l2d (bty.toInt64)))) (pf4 : Fld Z h0 a0 "com/example/evo_layout/evolayout/drawing/Box" "width" "D" (.double (FP.l2d (bw.toInt64)))) (pf5 : Fld Z h0 a0 "com/example/evo_layout/evolayout/drawing/Box" "height" "D" (.double (FP.l2d (bh.toInt64)))) (pf6 : Fld Z h0 a1 "com/example/evo_layout/evolayout/drawing/Point" "x" "D" (.double (FP.l2d (px.toInt64)))) (pf7 : Fld Z h0 a1 "com/example/evo_layout/evolayout/drawing/Point" "y" "D" (.double (FP.l2d (py.toInt64)))) :
    MetFree l (⟨"com/example/evo_layout/evolayout/drawing/Box", "contains", "(Lcom/example/evo_layout/evolayout/drawing/Point;)Z"⟩ : MethodName) (head1 (Jvm.Cond.code (⟨"com/example/evo_layout/evolayout/drawing/Box", "contains", "(Lcom/example/evo_layout/evolayout/drawing/Point;)Z"⟩ : MethodName) prog_4_method_7_code 2 (some .boolean) :: ws) ({ frames := 1, cells := 0, slots := 0, locals := 12 } : Room)) (fun a U => a = #[(.ref a0), (.ref a1)] ∧ Z.Warmed39 U.vm ∧ U.heap = h0) (fun _ _ _ _ _ => True) (fun _ U o U' => ∃ v L, o = .returned v ∧ Q4 Z a0 a1 bx bty bw bh px py  h0 n0 v U'.heap L ∧ FrameEnd U o U' L ({ frames := 1, cells := 0, slots := 0, locals := 12 } : Room).cells ({ frames := 1, cells := 0, slots := 0, locals := 12 } : Room).slots) := by
  refine MetFree.of_bodySF (plainFor_of_name pn0) hisR ?_
  intro p e s m args below meth c s₁ Bd hml0 hP hK
  obtain ⟨rfl, hZ, hh⟩ := hP
  have hx := Bd.exec
  have hby := Bd.bytes
  have hml : c.maxLocals = 2 := hml0
  have hown : s.vm.findClass "com/example/evo_layout/evolayout/drawing/Box" = some m.cls := findClass_of_methodNamed Bd.named
  have hnm := (name_of_methodNamed Bd.named Bd.method).1
  have hk := Bd.notSynchronized
  have X0 : Stand p l e ({ frames := 1, cells := 0, slots := 0, locals := 12 } : Room) s m #[(.ref a0), (.ref a1)] below meth c s₁ [] 0 0 := Stand.of_body Bd
  have hh2 := hh
  have e0 : s₁.heap = h0 := by rw [← hh, Bd.state]; rfl
  have N0 := Fr.nil n0
  show Gl p e below (Pos 0 0 (Q4 Z a0 a1 bx bty bw bh px py  h0 n0) s) s₁ _
  refine Gl.cast (ef4 m a0 a1) ?_
  refine Gl.by (g' := (mkF m 1 #[.val (.ref a0), .val (.ref a1)] [(.ref a1)])) (fun _ k => XS.aloadN X0.here hx rfl (hb hby d4_0) rfl rfl k) ?_
  obtain ⟨cq1, kq1, q1a, q1b, q1c⟩ := isOf hZ e0 pf1
  obtain ⟨_, _, ⟨T1, L1, k1, n1⟩, -, X1, ⟨Lc1, hQ1, l1, y1, z1⟩, st1⟩ := X0.virtualBack hx (y := (⟨"com/example/evo_layout/evolayout/drawing/Point", "x", "()D"⟩ : MethodName)) (z := (⟨"com/example/evo_layout/evolayout/drawing/Point", "x", "()D"⟩ : MethodName)) hown (mvT hZ (hw _ (List.mem_of_getElem? (i := 33) rfl))) (mvT hZ (hw _ (List.mem_of_getElem? (i := 34) rfl))) (notFace_of_selects (args := #[]) (mvT hZ (hw _ (List.mem_of_getElem? (i := 36) rfl)))) (mvT hZ (hw _ (List.mem_of_getElem? (i := 36) rfl))) (mvT hZ (hw _ (List.mem_of_getElem? (i := 35) rfl))) (by decide) (backOf (W := 0) (rm5 l Z a0' hw [] a1 (FP.l2d (px.toInt64))  h0 n0 O  pf6) hZ (hw _ (List.mem_of_getElem? (i := 37) rfl)) (hw _ (List.mem_of_getElem? (i := 19) rfl)) (by decide) (by decide)) q1a q1c (g := (mkF m 1 #[.val (.ref a0), .val (.ref a1)] [(.ref a1)])) rfl (by rw [hml]; rfl) (Steps.refl _) (argsL := []) (rest := []) (lenOf pd65 rfl) rfl (by show 2 * 0 + _ ≤ _; exact Nat.le_of_eq rfl) (hb hby d4_1) (fun _ _ => ⟨rfl, e0, (by decide : 0 + 0 ≤ _), (by decide : 0 + 0 ≤ _)⟩)
  dsimp only [Pt.U, Pt.locs, Pt.cells, Pt.slots] at X1 l1 y1 z1 st1 hQ1
  subst l1 y1 z1
  obtain ⟨rfl, N1q, e1⟩ := hQ1
  have N1 := Fr.app N0 N1q
  refine Gl.by (g' := (mkF m 4 #[.val (.ref a0), .val (.ref a1)] [(.double (FP.l2d (px.toInt64)))])) (fun _ k => st1.trans k) ?_
  refine Gl.by (g' := (mkF m 5 #[.val (.ref a0), .val (.ref a1)] [(.ref a0), (.double (FP.l2d (px.toInt64)))])) (fun _ k => XS.aloadN X1.here hx rfl (hb hby d4_4) rfl rfl k) ?_
  obtain ⟨T2, X2, e2, st2⟩ := getF X1 hx hZ hown (host := "") (Or.inl (hw _ (List.mem_of_getElem? (i := 9) rfl))) Via.refl e1 pf2 (g := (mkF m 5 #[.val (.ref a0), .val (.ref a1)] [(.ref a0), (.double (FP.l2d (px.toInt64)))])) rfl rfl (hb hby d4_5)
  refine Gl.by (g' := (mkF m 8 #[.val (.ref a0), .val (.ref a1)] [(.double (FP.l2d (bx.toInt64))), (.double (FP.l2d (px.toInt64)))])) st2 ?_
  refine Gl.by (g' := (mkF m 9 #[.val (.ref a0), .val (.ref a1)] [(.int (lcmpW (px.toInt64) (bx.toInt64)))])) (fun _ k => XS.dcmpS X2.here hx rfl (hb hby d4_8) rfl (dcmpV_w (b53i px) (b53i bx) .l) k) ?_
  by_cases hc3 : (px.toInt64) < (bx.toInt64)
  · refine Gl.by (g' := (mkF m 62 #[.val (.ref a0), .val (.ref a1)] [])) (fun _ k => XS.ifYes X2.here hx rfl (pc0 := 9) (pc' := 62) rfl (hb hby d4_9) rfl ((if0 _ _).trans (tlt ((lw_lt (px.toInt64) (bx.toInt64)).mpr hc3)).1) (by decide) (by decide) k) ?_
    refine Gl.by (g' := (mkF m 63 #[.val (.ref a0), .val (.ref a1)] [(.int (0 : Int32))])) (fun _ k => XS.iconst X2.here hx rfl (hb hby d4_62) k) ?_
    exact Gl.outN X2 hx hk (t := .boolean) Bd.returns (by simp) (hb hby d4_63) ⟨(congrArg (fun z => some (Value.int z)) (show nar .boolean (0 : Int32) = fn4 bx bty bw bh px py  by unfold fn4; rw [if_pos hc3]; try rfl)), N1, e2⟩ (by decide) (by decide)
  · refine Gl.by (g' := (mkF m 12 #[.val (.ref a0), .val (.ref a1)] [])) (fun _ k => XS.ifNo X2.here hx rfl (hb hby d4_9) rfl ((if0 _ _).trans (flt (fun q => hc3 ((lw_lt (px.toInt64) (bx.toInt64)).mp q))).1) k) ?_
    refine Gl.by (g' := (mkF m 13 #[.val (.ref a0), .val (.ref a1)] [(.ref a1)])) (fun _ k => XS.aloadN X2.here hx rfl (hb hby d4_12) rfl rfl k) ?_
    obtain ⟨cq4, kq4, q4a, q4b, q4c⟩ := isOf hZ e2 pf1
    obtain ⟨_, _, ⟨T4, L4, k4, n4⟩, -, X4, ⟨Lc4, hQ4, l4, y4, z4⟩, st4⟩ := X2.virtualBack hx (y := (⟨"com/example/evo_layout/evolayout/drawing/Point", "x", "()D"⟩ : MethodName)) (z := (⟨"com/example/evo_layout/evolayout/drawing/Point", "x", "()D"⟩ : MethodName)) hown (mvT hZ (hw _ (List.mem_of_getElem? (i := 33) rfl))) (mvT hZ (hw _ (List.mem_of_getElem? (i := 34) rfl))) (notFace_of_selects (args := #[]) (mvT hZ (hw _ (List.mem_of_getElem? (i := 36) rfl)))) (mvT hZ (hw _ (List.mem_of_getElem? (i := 36) rfl))) (mvT hZ (hw _ (List.mem_of_getElem? (i := 35) rfl))) (by decide) (backOf (W := 0) (rm5 l Z a0' hw [] a1 (FP.l2d (px.toInt64))  h0 n0 O  pf6) hZ (hw _ (List.mem_of_getElem? (i := 37) rfl)) (hw _ (List.mem_of_getElem? (i := 19) rfl)) (by decide) (by decide)) q4a q4c (g := (mkF m 13 #[.val (.ref a0), .val (.ref a1)] [(.ref a1)])) rfl (by rw [hml]; rfl) (Steps.refl _) (argsL := []) (rest := []) (lenOf pd65 rfl) rfl (by show 2 * 0 + _ ≤ _; exact Nat.le_of_eq rfl) (hb hby d4_13) (fun _ _ => ⟨rfl, e2, (by decide : 0 + 0 ≤ _), (by decide : 0 + 0 ≤ _)⟩)
    dsimp only [Pt.U, Pt.locs, Pt.cells, Pt.slots] at X4 l4 y4 z4 st4 hQ4
    subst l4 y4 z4
    obtain ⟨rfl, N4q, e4⟩ := hQ4
    have N4 := Fr.app N1 N4q
    refine Gl.by (g' := (mkF m 16 #[.val (.ref a0), .val (.ref a1)] [(.double (FP.l2d (px.toInt64)))])) (fun _ k => st4.trans k) ?_
    refine Gl.by (g' := (mkF m 17 #[.val (.ref a0), .val (.ref a1)] [(.ref a0), (.double (FP.l2d (px.toInt64)))])) (fun _ k => XS.aloadN X4.here hx rfl (hb hby d4_16) rfl rfl k) ?_
    obtain ⟨T5, X5, e5, st5⟩ := getF X4 hx hZ hown (host := "") (Or.inl (hw _ (List.mem_of_getElem? (i := 9) rfl))) Via.refl e4 pf2 (g := (mkF m 17 #[.val (.ref a0), .val (.ref a1)] [(.ref a0), (.double (FP.l2d (px.toInt64)))])) rfl rfl (hb hby d4_17)
    refine Gl.by (g' := (mkF m 20 #[.val (.ref a0), .val (.ref a1)] [(.double (FP.l2d (bx.toInt64))), (.double (FP.l2d (px.toInt64)))])) st5 ?_
    refine Gl.by (g' := (mkF m 21 #[.val (.ref a0), .val (.ref a1)] [(.ref a0), (.double (FP.l2d (bx.toInt64))), (.double (FP.l2d (px.toInt64)))])) (fun _ k => XS.aloadN X5.here hx rfl (hb hby d4_20) rfl rfl k) ?_
    obtain ⟨T6, X6, e6, st6⟩ := getF X5 hx hZ hown (host := "") (Or.inl (hw _ (List.mem_of_getElem? (i := 13) rfl))) Via.refl e5 pf4 (g := (mkF m 21 #[.val (.ref a0), .val (.ref a1)] [(.ref a0), (.double (FP.l2d (bx.toInt64))), (.double (FP.l2d (px.toInt64)))])) rfl rfl (hb hby d4_21)
    refine Gl.by (g' := (mkF m 24 #[.val (.ref a0), .val (.ref a1)] [(.double (FP.l2d (bw.toInt64))), (.double (FP.l2d (bx.toInt64))), (.double (FP.l2d (px.toInt64)))])) st6 ?_
    refine Gl.by (g' := (mkF m 25 #[.val (.ref a0), .val (.ref a1)] [(.double (FP.l2d ((bx.toInt64) + (bw.toInt64)))), (.double (FP.l2d (px.toInt64)))])) (fun _ k => XS.daddS X6.here hx rfl (hb hby d4_24) rfl (nn_w (dadd_w (b53i bx) (b53i bw))) (dadd_w (b53i bx) (b53i bw)) k) ?_
    refine Gl.by (g' := (mkF m 26 #[.val (.ref a0), .val (.ref a1)] [(.int (lcmpW (px.toInt64) ((bx.toInt64) + (bw.toInt64))))])) (fun _ k => XS.dcmpS X6.here hx rfl (hb hby d4_25) rfl (dcmpV_w (b53i px) (b53a bx bw) .g) k) ?_
    by_cases hc7 : ((bx.toInt64) + (bw.toInt64)) < (px.toInt64)
    · refine Gl.by (g' := (mkF m 62 #[.val (.ref a0), .val (.ref a1)] [])) (fun _ k => XS.ifYes X6.here hx rfl (pc0 := 26) (pc' := 62) rfl (hb hby d4_26) rfl ((if0 _ _).trans (tlt ((lw_gt (px.toInt64) ((bx.toInt64) + (bw.toInt64))).mpr hc7)).2.2.1) (by decide) (by decide) k) ?_
      refine Gl.by (g' := (mkF m 63 #[.val (.ref a0), .val (.ref a1)] [(.int (0 : Int32))])) (fun _ k => XS.iconst X6.here hx rfl (hb hby d4_62) k) ?_
      exact Gl.outN X6 hx hk (t := .boolean) Bd.returns (by simp) (hb hby d4_63) ⟨(congrArg (fun z => some (Value.int z)) (show nar .boolean (0 : Int32) = fn4 bx bty bw bh px py  by unfold fn4; rw [if_neg hc3, if_pos hc7]; try rfl)), N4, e6⟩ (by decide) (by decide)
    · refine Gl.by (g' := (mkF m 29 #[.val (.ref a0), .val (.ref a1)] [])) (fun _ k => XS.ifNo X6.here hx rfl (hb hby d4_26) rfl ((if0 _ _).trans (flt (fun q => hc7 ((lw_gt (px.toInt64) ((bx.toInt64) + (bw.toInt64))).mp q))).2.2.1) k) ?_
      refine Gl.by (g' := (mkF m 30 #[.val (.ref a0), .val (.ref a1)] [(.ref a1)])) (fun _ k => XS.aloadN X6.here hx rfl (hb hby d4_29) rfl rfl k) ?_
      obtain ⟨cq8, kq8, q8a, q8b, q8c⟩ := isOf hZ e6 pf1
      obtain ⟨_, _, ⟨T8, L8, k8, n8⟩, -, X8, ⟨Lc8, hQ8, l8, y8, z8⟩, st8⟩ := X6.virtualBack hx (y := (⟨"com/example/evo_layout/evolayout/drawing/Point", "y", "()D"⟩ : MethodName)) (z := (⟨"com/example/evo_layout/evolayout/drawing/Point", "y", "()D"⟩ : MethodName)) hown (mvT hZ (hw _ (List.mem_of_getElem? (i := 38) rfl))) (mvT hZ (hw _ (List.mem_of_getElem? (i := 39) rfl))) (notFace_of_selects (args := #[]) (mvT hZ (hw _ (List.mem_of_getElem? (i := 41) rfl)))) (mvT hZ (hw _ (List.mem_of_getElem? (i := 41) rfl))) (mvT hZ (hw _ (List.mem_of_getElem? (i := 40) rfl))) (by decide) (backOf (W := 0) (rm6 l Z a0' hw [] a1 (FP.l2d (py.toInt64))  h0 n0 O  pf7) hZ (hw _ (List.mem_of_getElem? (i := 42) rfl)) (hw _ (List.mem_of_getElem? (i := 19) rfl)) (by decide) (by decide)) q8a q8c (g := (mkF m 30 #[.val (.ref a0), .val (.ref a1)] [(.ref a1)])) rfl (by rw [hml]; rfl) (Steps.refl _) (argsL := []) (rest := []) (lenOf pd65 rfl) rfl (by show 2 * 0 + _ ≤ _; exact Nat.le_of_eq rfl) (hb hby d4_30) (fun _ _ => ⟨rfl, e6, (by decide : 0 + 0 ≤ _), (by decide : 0 + 0 ≤ _)⟩)
      dsimp only [Pt.U, Pt.locs, Pt.cells, Pt.slots] at X8 l8 y8 z8 st8 hQ8
      subst l8 y8 z8
      obtain ⟨rfl, N8q, e8⟩ := hQ8
      have N8 := Fr.app N4 N8q
      refine Gl.by (g' := (mkF m 33 #[.val (.ref a0), .val (.ref a1)] [(.double (FP.l2d (py.toInt64)))])) (fun _ k => st8.trans k) ?_
      refine Gl.by (g' := (mkF m 34 #[.val (.ref a0), .val (.ref a1)] [(.ref a0), (.double (FP.l2d (py.toInt64)))])) (fun _ k => XS.aloadN X8.here hx rfl (hb hby d4_33) rfl rfl k) ?_
      obtain ⟨T9, X9, e9, st9⟩ := getF X8 hx hZ hown (host := "") (Or.inl (hw _ (List.mem_of_getElem? (i := 11) rfl))) Via.refl e8 pf3 (g := (mkF m 34 #[.val (.ref a0), .val (.ref a1)] [(.ref a0), (.double (FP.l2d (py.toInt64)))])) rfl rfl (hb hby d4_34)
      refine Gl.by (g' := (mkF m 37 #[.val (.ref a0), .val (.ref a1)] [(.double (FP.l2d (bty.toInt64))), (.double (FP.l2d (py.toInt64)))])) st9 ?_
      refine Gl.by (g' := (mkF m 38 #[.val (.ref a0), .val (.ref a1)] [(.int (lcmpW (py.toInt64) (bty.toInt64)))])) (fun _ k => XS.dcmpS X9.here hx rfl (hb hby d4_37) rfl (dcmpV_w (b53i py) (b53i bty) .l) k) ?_
      by_cases hc10 : (py.toInt64) < (bty.toInt64)
      · refine Gl.by (g' := (mkF m 62 #[.val (.ref a0), .val (.ref a1)] [])) (fun _ k => XS.ifYes X9.here hx rfl (pc0 := 38) (pc' := 62) rfl (hb hby d4_38) rfl ((if0 _ _).trans (tlt ((lw_lt (py.toInt64) (bty.toInt64)).mpr hc10)).1) (by decide) (by decide) k) ?_
        refine Gl.by (g' := (mkF m 63 #[.val (.ref a0), .val (.ref a1)] [(.int (0 : Int32))])) (fun _ k => XS.iconst X9.here hx rfl (hb hby d4_62) k) ?_
        exact Gl.outN X9 hx hk (t := .boolean) Bd.returns (by simp) (hb hby d4_63) ⟨(congrArg (fun z => some (Value.int z)) (show nar .boolean (0 : Int32) = fn4 bx bty bw bh px py  by unfold fn4; rw [if_neg hc3, if_neg hc7, if_pos hc10]; try rfl)), N8, e9⟩ (by decide) (by decide)
      · refine Gl.by (g' := (mkF m 41 #[.val (.ref a0), .val (.ref a1)] [])) (fun _ k => XS.ifNo X9.here hx rfl (hb hby d4_38) rfl ((if0 _ _).trans (flt (fun q => hc10 ((lw_lt (py.toInt64) (bty.toInt64)).mp q))).1) k) ?_
        refine Gl.by (g' := (mkF m 42 #[.val (.ref a0), .val (.ref a1)] [(.ref a1)])) (fun _ k => XS.aloadN X9.here hx rfl (hb hby d4_41) rfl rfl k) ?_
        obtain ⟨cq11, kq11, q11a, q11b, q11c⟩ := isOf hZ e9 pf1
        obtain ⟨_, _, ⟨T11, L11, k11, n11⟩, -, X11, ⟨Lc11, hQ11, l11, y11, z11⟩, st11⟩ := X9.virtualBack hx (y := (⟨"com/example/evo_layout/evolayout/drawing/Point", "y", "()D"⟩ : MethodName)) (z := (⟨"com/example/evo_layout/evolayout/drawing/Point", "y", "()D"⟩ : MethodName)) hown (mvT hZ (hw _ (List.mem_of_getElem? (i := 38) rfl))) (mvT hZ (hw _ (List.mem_of_getElem? (i := 39) rfl))) (notFace_of_selects (args := #[]) (mvT hZ (hw _ (List.mem_of_getElem? (i := 41) rfl)))) (mvT hZ (hw _ (List.mem_of_getElem? (i := 41) rfl))) (mvT hZ (hw _ (List.mem_of_getElem? (i := 40) rfl))) (by decide) (backOf (W := 0) (rm6 l Z a0' hw [] a1 (FP.l2d (py.toInt64))  h0 n0 O  pf7) hZ (hw _ (List.mem_of_getElem? (i := 42) rfl)) (hw _ (List.mem_of_getElem? (i := 19) rfl)) (by decide) (by decide)) q11a q11c (g := (mkF m 42 #[.val (.ref a0), .val (.ref a1)] [(.ref a1)])) rfl (by rw [hml]; rfl) (Steps.refl _) (argsL := []) (rest := []) (lenOf pd65 rfl) rfl (by show 2 * 0 + _ ≤ _; exact Nat.le_of_eq rfl) (hb hby d4_42) (fun _ _ => ⟨rfl, e9, (by decide : 0 + 0 ≤ _), (by decide : 0 + 0 ≤ _)⟩)
        dsimp only [Pt.U, Pt.locs, Pt.cells, Pt.slots] at X11 l11 y11 z11 st11 hQ11
        subst l11 y11 z11
        obtain ⟨rfl, N11q, e11⟩ := hQ11
        have N11 := Fr.app N8 N11q
        refine Gl.by (g' := (mkF m 45 #[.val (.ref a0), .val (.ref a1)] [(.double (FP.l2d (py.toInt64)))])) (fun _ k => st11.trans k) ?_
        refine Gl.by (g' := (mkF m 46 #[.val (.ref a0), .val (.ref a1)] [(.ref a0), (.double (FP.l2d (py.toInt64)))])) (fun _ k => XS.aloadN X11.here hx rfl (hb hby d4_45) rfl rfl k) ?_
        obtain ⟨T12, X12, e12, st12⟩ := getF X11 hx hZ hown (host := "") (Or.inl (hw _ (List.mem_of_getElem? (i := 11) rfl))) Via.refl e11 pf3 (g := (mkF m 46 #[.val (.ref a0), .val (.ref a1)] [(.ref a0), (.double (FP.l2d (py.toInt64)))])) rfl rfl (hb hby d4_46)
        refine Gl.by (g' := (mkF m 49 #[.val (.ref a0), .val (.ref a1)] [(.double (FP.l2d (bty.toInt64))), (.double (FP.l2d (py.toInt64)))])) st12 ?_
        refine Gl.by (g' := (mkF m 50 #[.val (.ref a0), .val (.ref a1)] [(.ref a0), (.double (FP.l2d (bty.toInt64))), (.double (FP.l2d (py.toInt64)))])) (fun _ k => XS.aloadN X12.here hx rfl (hb hby d4_49) rfl rfl k) ?_
        obtain ⟨T13, X13, e13, st13⟩ := getF X12 hx hZ hown (host := "") (Or.inl (hw _ (List.mem_of_getElem? (i := 15) rfl))) Via.refl e12 pf5 (g := (mkF m 50 #[.val (.ref a0), .val (.ref a1)] [(.ref a0), (.double (FP.l2d (bty.toInt64))), (.double (FP.l2d (py.toInt64)))])) rfl rfl (hb hby d4_50)
        refine Gl.by (g' := (mkF m 53 #[.val (.ref a0), .val (.ref a1)] [(.double (FP.l2d (bh.toInt64))), (.double (FP.l2d (bty.toInt64))), (.double (FP.l2d (py.toInt64)))])) st13 ?_
        refine Gl.by (g' := (mkF m 54 #[.val (.ref a0), .val (.ref a1)] [(.double (FP.l2d ((bty.toInt64) + (bh.toInt64)))), (.double (FP.l2d (py.toInt64)))])) (fun _ k => XS.daddS X13.here hx rfl (hb hby d4_53) rfl (nn_w (dadd_w (b53i bty) (b53i bh))) (dadd_w (b53i bty) (b53i bh)) k) ?_
        refine Gl.by (g' := (mkF m 55 #[.val (.ref a0), .val (.ref a1)] [(.int (lcmpW (py.toInt64) ((bty.toInt64) + (bh.toInt64))))])) (fun _ k => XS.dcmpS X13.here hx rfl (hb hby d4_54) rfl (dcmpV_w (b53i py) (b53a bty bh) .g) k) ?_
        by_cases hc14 : ((bty.toInt64) + (bh.toInt64)) < (py.toInt64)
        · refine Gl.by (g' := (mkF m 62 #[.val (.ref a0), .val (.ref a1)] [])) (fun _ k => XS.ifYes X13.here hx rfl (pc0 := 55) (pc' := 62) rfl (hb hby d4_55) rfl ((if0 _ _).trans (tlt ((lw_gt (py.toInt64) ((bty.toInt64) + (bh.toInt64))).mpr hc14)).2.2.1) (by decide) (by decide) k) ?_
          refine Gl.by (g' := (mkF m 63 #[.val (.ref a0), .val (.ref a1)] [(.int (0 : Int32))])) (fun _ k => XS.iconst X13.here hx rfl (hb hby d4_62) k) ?_
          exact Gl.outN X13 hx hk (t := .boolean) Bd.returns (by simp) (hb hby d4_63) ⟨(congrArg (fun z => some (Value.int z)) (show nar .boolean (0 : Int32) = fn4 bx bty bw bh px py  by unfold fn4; rw [if_neg hc3, if_neg hc7, if_neg hc10, if_pos hc14]; try rfl)), N11, e13⟩ (by decide) (by decide)
        · refine Gl.by (g' := (mkF m 58 #[.val (.ref a0), .val (.ref a1)] [])) (fun _ k => XS.ifNo X13.here hx rfl (hb hby d4_55) rfl ((if0 _ _).trans (flt (fun q => hc14 ((lw_gt (py.toInt64) ((bty.toInt64) + (bh.toInt64))).mp q))).2.2.1) k) ?_
          refine Gl.by (g' := (mkF m 59 #[.val (.ref a0), .val (.ref a1)] [(.int (1 : Int32))])) (fun _ k => XS.iconst X13.here hx rfl (hb hby d4_58) k) ?_
          refine Gl.by (g' := (mkF m 63 #[.val (.ref a0), .val (.ref a1)] [(.int (1 : Int32))])) (fun _ k => XS.goto X13.here hx rfl (pc0 := 59) (pc' := 63) rfl (hb hby d4_59) (by decide) (by decide) k) ?_
          exact Gl.outN X13 hx hk (t := .boolean) Bd.returns (by simp) (hb hby d4_63) ⟨(congrArg (fun z => some (Value.int z)) (show nar .boolean (1 : Int32) = fn4 bx bty bw bh px py  by unfold fn4; rw [if_neg hc3, if_neg hc7, if_neg hc10, if_neg hc14]; try rfl)), N11, e13⟩ (by decide) (by decide)
theorem pn2 : plainName "com/example/evo_layout/evolayout/drawing/BoxContainsPinLaw" = true := by first | (simp [plainName, overriddenIn]; done) | decide +kernel
theorem pd66 : parseMethodDescriptor "(DDDD)V" = some ⟨[.double, .double, .double, .double], none⟩ := by decide +kernel
theorem pd67 : parseMethodDescriptor "(DD)V" = some ⟨[.double, .double], none⟩ := by decide +kernel
theorem pd68 : parseMethodDescriptor "(Lcom/example/evo_layout/evolayout/drawing/Point;)Z" = some ⟨[(.object "com/example/evo_layout/evolayout/drawing/Point")], some .boolean⟩ := by decide +kernel
theorem ef0 (m : MethodId) (x0 : Int32) (x1 : Int32) (x2 : Int32) (x3 : Int32) (x4 : Int32) (x5 : Int32) : entryFrame m #[(.int x0), (.int x1), (.int x2), (.int x3), (.int x4), (.int x5)] maxLocals = mkF m 0 #[.val (.int x0), .val (.int x1), .val (.int x2), .val (.int x3), .val (.int x4), .val (.int x5), .unset, .unset, .unset, .unset, .unset, .unset, .unset] [] := by first | (simp [entryFrame, mkF, argsToLocals, Value.category, maxLocals]; done) | rfl
def fj0_0 (p0 : Int32) (p1 : Int32) (p2 : Int32) (p3 : Int32) (p4 : Int32) (p5 : Int32) : Int32 := if ((p4.toInt64) - (p0.toInt64)) < (0 : Int64) then (0 : Int32) else if (p2.toInt64) < ((p4.toInt64) - (p0.toInt64)) then (0 : Int32) else if ((p5.toInt64) - (p1.toInt64)) < (0 : Int64) then (0 : Int32) else if (p3.toInt64) < ((p5.toInt64) - (p1.toInt64)) then (0 : Int32) else (1 : Int32)
def fj0_1 (p0 : Int32) (p1 : Int32) (p2 : Int32) (p3 : Int32) (p4 : Int32) (p5 : Int32) : Int32 := if (fn4 p0 p1 p2 p3 p4 p5 ) = (fj0_0 p0 p1 p2 p3 p4 p5 ) then (1 : Int32) else (0 : Int32)
def fn0 (p0 : Int32) (p1 : Int32) (p2 : Int32) (p3 : Int32) (p4 : Int32) (p5 : Int32) : Int32 := (nar .boolean (fj0_1 p0 p1 p2 p3 p4 p5 ))
def Q0 (Z : State) (p0 : Int32) (p1 : Int32) (p2 : Int32) (p3 : Int32) (p4 : Int32) (p5 : Int32) (h0 : Heap) (n0 : Nat) (v : Option Value) (h : Heap) (L : List Loc) : Prop := v = some (.int (fn0 p0 p1 p2 p3 p4 p5 )) ∧ Fr n0 L
set_option maxRecDepth 65536 in
set_option maxHeartbeats 40000000 in
theorem rm0 (l : Launch) (Z : State) (a0' : Array Value) (hw : ∀ d ∈ tables_1, d.before a0' Z = true) (ws : List Jvm.Cond) (p0 : Int32) (p1 : Int32) (p2 : Int32) (p3 : Int32) (p4 : Int32) (p5 : Int32) (h0 : Heap) (n0 : Nat) (O : Old Z n0 h0)  :
    MetFree l x (head1 (Jvm.Cond.code x code maxLocals ret :: ws) room_1) (fun a U => a = #[(.int p0), (.int p1), (.int p2), (.int p3), (.int p4), (.int p5)] ∧ Z.Warmed39 U.vm ∧ U.heap = h0) (fun _ _ _ _ _ => True) (fun _ U o U' => ∃ v L, o = .returned v ∧ Q0 Z p0 p1 p2 p3 p4 p5  h0 n0 v U'.heap L ∧ FrameEnd U o U' L 16 128) := by
  refine MetFree.of_bodySF (plainFor_of_name pn2) hisR ?_
  intro p e s m args below meth c s₁ Bd hml0 hP hK
  obtain ⟨rfl, hZ, hh⟩ := hP
  have hx := Bd.exec
  have hby := Bd.bytes
  have hml : c.maxLocals = 13 := hml0
  have hown : s.vm.findClass "com/example/evo_layout/evolayout/drawing/BoxContainsPinLaw" = some m.cls := findClass_of_methodNamed Bd.named
  have hnm := (name_of_methodNamed Bd.named Bd.method).1
  have hk := Bd.notSynchronized
  have X0 : Stand p l e room_1 s m #[(.int p0), (.int p1), (.int p2), (.int p3), (.int p4), (.int p5)] below meth c s₁ [] 0 0 := Stand.of_body Bd
  have hh2 := hh
  have e0 : s₁.heap = h0 := by rw [← hh, Bd.state]; rfl
  have N0 := Fr.nil n0
  show Gl p e below (Pos 16 128 (Q0 Z p0 p1 p2 p3 p4 p5  h0 n0) s) s₁ _
  refine Gl.cast (ef0 m p0 p1 p2 p3 p4 p5) ?_
  obtain ⟨T1, h1, X1, e1, E1, A1, D1, -, st1⟩ := newO X0 hx hZ hown (hw _ (List.mem_of_getElem? (i := 0) rfl)) (hw _ (List.mem_of_getElem? (i := 1) rfl)) (hw _ (List.mem_of_getElem? (i := 2) rfl)) e0 (g := (mkF m 0 #[.val (.int p0), .val (.int p1), .val (.int p2), .val (.int p3), .val (.int p4), .val (.int p5), .unset, .unset, .unset, .unset, .unset, .unset, .unset] [])) rfl (hb hby at_0) (by decide) (by decide)
  obtain ⟨b1, g1⟩ : ∃ z, z = (h0).size := ⟨_, rfl⟩
  rw [← g1] at A1 D1 st1
  have gb1 : n0 ≤ b1 := Nat.le_trans (Nat.le_trans (Nat.le_of_eq O.1.symm) O.2.1) (Nat.le_of_eq g1.symm)
  have sb1 : h0.size ≤ b1 := Nat.le_trans (Keep.refl h0 []).1 (Nat.le_of_eq g1.symm)
  have D1_x : Fld Z h1 b1 "com/example/evo_layout/evolayout/drawing/Box" "x" "D" (.double (0 : UInt64)) := D1 (Or.inr (hw _ (List.mem_of_getElem? (i := 10) rfl))) (ty := .double) (by decide)
  have D1_y : Fld Z h1 b1 "com/example/evo_layout/evolayout/drawing/Box" "y" "D" (.double (0 : UInt64)) := D1 (Or.inr (hw _ (List.mem_of_getElem? (i := 12) rfl))) (ty := .double) (by decide)
  have D1_width : Fld Z h1 b1 "com/example/evo_layout/evolayout/drawing/Box" "width" "D" (.double (0 : UInt64)) := D1 (Or.inr (hw _ (List.mem_of_getElem? (i := 14) rfl))) (ty := .double) (by decide)
  have D1_height : Fld Z h1 b1 "com/example/evo_layout/evolayout/drawing/Box" "height" "D" (.double (0 : UInt64)) := D1 (Or.inr (hw _ (List.mem_of_getElem? (i := 16) rfl))) (ty := .double) (by decide)
  refine Gl.by (g' := (mkF m 3 #[.val (.int p0), .val (.int p1), .val (.int p2), .val (.int p3), .val (.int p4), .val (.int p5), .unset, .unset, .unset, .unset, .unset, .unset, .unset] [(.ref b1)])) st1 ?_
  refine Gl.by (g' := (mkF m 4 #[.val (.int p0), .val (.int p1), .val (.int p2), .val (.int p3), .val (.int p4), .val (.int p5), .unset, .unset, .unset, .unset, .unset, .unset, .unset] [(.ref b1), (.ref b1)])) (fun _ k => XS.dup X1.here hx rfl (hb hby at_3) rfl rfl k) ?_
  refine Gl.by (g' := (mkF m 5 #[.val (.int p0), .val (.int p1), .val (.int p2), .val (.int p3), .val (.int p4), .val (.int p5), .unset, .unset, .unset, .unset, .unset, .unset, .unset] [(.int p0), (.ref b1), (.ref b1)])) (fun _ k => XS.iloadN X1.here hx rfl (hb hby at_4) rfl k) ?_
  refine Gl.by (g' := (mkF m 6 #[.val (.int p0), .val (.int p1), .val (.int p2), .val (.int p3), .val (.int p4), .val (.int p5), .unset, .unset, .unset, .unset, .unset, .unset, .unset] [(.double (FP.l2d (p0.toInt64))), (.ref b1), (.ref b1)])) (fun _ k => XS.i2dS X1.here hx rfl (hb hby at_5) rfl (i2d_w _) k) ?_
  refine Gl.by (g' := (mkF m 7 #[.val (.int p0), .val (.int p1), .val (.int p2), .val (.int p3), .val (.int p4), .val (.int p5), .unset, .unset, .unset, .unset, .unset, .unset, .unset] [(.int p1), (.double (FP.l2d (p0.toInt64))), (.ref b1), (.ref b1)])) (fun _ k => XS.iloadN X1.here hx rfl (hb hby at_6) rfl k) ?_
  refine Gl.by (g' := (mkF m 8 #[.val (.int p0), .val (.int p1), .val (.int p2), .val (.int p3), .val (.int p4), .val (.int p5), .unset, .unset, .unset, .unset, .unset, .unset, .unset] [(.double (FP.l2d (p1.toInt64))), (.double (FP.l2d (p0.toInt64))), (.ref b1), (.ref b1)])) (fun _ k => XS.i2dS X1.here hx rfl (hb hby at_7) rfl (i2d_w _) k) ?_
  refine Gl.by (g' := (mkF m 9 #[.val (.int p0), .val (.int p1), .val (.int p2), .val (.int p3), .val (.int p4), .val (.int p5), .unset, .unset, .unset, .unset, .unset, .unset, .unset] [(.int p2), (.double (FP.l2d (p1.toInt64))), (.double (FP.l2d (p0.toInt64))), (.ref b1), (.ref b1)])) (fun _ k => XS.iloadN X1.here hx rfl (hb hby at_8) rfl k) ?_
  refine Gl.by (g' := (mkF m 10 #[.val (.int p0), .val (.int p1), .val (.int p2), .val (.int p3), .val (.int p4), .val (.int p5), .unset, .unset, .unset, .unset, .unset, .unset, .unset] [(.double (FP.l2d (p2.toInt64))), (.double (FP.l2d (p1.toInt64))), (.double (FP.l2d (p0.toInt64))), (.ref b1), (.ref b1)])) (fun _ k => XS.i2dS X1.here hx rfl (hb hby at_9) rfl (i2d_w _) k) ?_
  refine Gl.by (g' := (mkF m 11 #[.val (.int p0), .val (.int p1), .val (.int p2), .val (.int p3), .val (.int p4), .val (.int p5), .unset, .unset, .unset, .unset, .unset, .unset, .unset] [(.int p3), (.double (FP.l2d (p2.toInt64))), (.double (FP.l2d (p1.toInt64))), (.double (FP.l2d (p0.toInt64))), (.ref b1), (.ref b1)])) (fun _ k => XS.iloadN X1.here hx rfl (hb hby at_10) rfl k) ?_
  refine Gl.by (g' := (mkF m 12 #[.val (.int p0), .val (.int p1), .val (.int p2), .val (.int p3), .val (.int p4), .val (.int p5), .unset, .unset, .unset, .unset, .unset, .unset, .unset] [(.double (FP.l2d (p3.toInt64))), (.double (FP.l2d (p2.toInt64))), (.double (FP.l2d (p1.toInt64))), (.double (FP.l2d (p0.toInt64))), (.ref b1), (.ref b1)])) (fun _ k => XS.i2dS X1.here hx rfl (hb hby at_11) rfl (i2d_w _) k) ?_
  have O3 := (O.ext E1)
  obtain ⟨_, _, ⟨T2, L2, k2, n2⟩, -, X2, ⟨Lc2, hQ2, l2, y2, z2⟩, st2⟩ := X1.specialBack hx (y := (⟨"com/example/evo_layout/evolayout/drawing/Box", "<init>", "(DDDD)V"⟩ : MethodName)) rfl hown (mvT hZ (hw _ (List.mem_of_getElem? (i := 3) rfl))) (mvT hZ (hw _ (List.mem_of_getElem? (i := 4) rfl))) (mvT hZ (hw _ (List.mem_of_getElem? (i := 5) rfl))) (by decide) (backOf (W := 1) (rm1 l Z a0' hw [] b1 (FP.l2d (p0.toInt64)) (FP.l2d (p1.toInt64)) (FP.l2d (p2.toInt64)) (FP.l2d (p3.toInt64))  h1 n0 O3  A1 D1_x D1_y D1_width D1_height gb1) hZ (hw _ (List.mem_of_getElem? (i := 5) rfl)) (hw _ (List.mem_of_getElem? (i := 2) rfl)) (by decide) (by decide)) (g := (mkF m 12 #[.val (.int p0), .val (.int p1), .val (.int p2), .val (.int p3), .val (.int p4), .val (.int p5), .unset, .unset, .unset, .unset, .unset, .unset, .unset] [(.double (FP.l2d (p3.toInt64))), (.double (FP.l2d (p2.toInt64))), (.double (FP.l2d (p1.toInt64))), (.double (FP.l2d (p0.toInt64))), (.ref b1), (.ref b1)])) rfl (by rw [hml]; rfl) (Steps.refl _) (a := b1) (argsL := [(.double (FP.l2d (p0.toInt64))), (.double (FP.l2d (p1.toInt64))), (.double (FP.l2d (p2.toInt64))), (.double (FP.l2d (p3.toInt64)))]) (rest := [(.ref b1)]) (lenOf pd66 rfl) rfl (by show 2 * 0 + _ ≤ _; exact Nat.le_of_eq rfl) (hb hby at_12) (fun _ _ => ⟨rfl, e1, (by decide : 1 + 0 ≤ _), (by decide : 4 + 0 ≤ _)⟩)
  dsimp only [Pt.U, Pt.locs, Pt.cells, Pt.slots] at X2 l2 y2 z2 st2 hQ2
  subst l2 y2 z2
  obtain ⟨rfl, N2q, Kc2, fc2_0, fc2_1, fc2_2, fc2_3⟩ := hQ2
  have N2 := Fr.app N0 N2q
  refine Gl.by (g' := (mkF m 15 #[.val (.int p0), .val (.int p1), .val (.int p2), .val (.int p3), .val (.int p4), .val (.int p5), .unset, .unset, .unset, .unset, .unset, .unset, .unset] [(.ref b1)])) (fun _ k => st2.trans k) ?_
  refine Gl.by (g' := (mkF m 17 #[.val (.int p0), .val (.int p1), .val (.int p2), .val (.int p3), .val (.int p4), .val (.int p5), .val (.ref b1), .unset, .unset, .unset, .unset, .unset, .unset] [])) (fun _ k => XS.astore X2.here hx rfl (hb hby at_15) rfl rfl (l' := #[.val (.int p0), .val (.int p1), .val (.int p2), .val (.int p3), .val (.int p4), .val (.int p5), .val (.ref b1), .unset, .unset, .unset, .unset, .unset, .unset]) rfl k) ?_
  have O5 := (O3.keep Kc2 (allS gb1 all0))
  have f6 := (Exa.keep A1 Kc2)
  have K7 := (((Keep.refl h0 []).ext E1).trans Kc2 (allS (Or.inr sb1) all0))
  obtain ⟨T4, h4, X4, e4, E4, A4, D4, -, st4⟩ := newO X2 hx hZ hown (hw _ (List.mem_of_getElem? (i := 17) rfl)) (hw _ (List.mem_of_getElem? (i := 18) rfl)) (hw _ (List.mem_of_getElem? (i := 19) rfl)) rfl (g := (mkF m 17 #[.val (.int p0), .val (.int p1), .val (.int p2), .val (.int p3), .val (.int p4), .val (.int p5), .val (.ref b1), .unset, .unset, .unset, .unset, .unset, .unset] [])) rfl (hb hby at_17) (by decide) (by decide)
  obtain ⟨b4, g4⟩ : ∃ z, z = (T2.heap).size := ⟨_, rfl⟩
  rw [← g4] at A4 D4 st4
  have gb4 : n0 ≤ b4 := Nat.le_trans (Nat.le_trans (Nat.le_of_eq O5.1.symm) O5.2.1) (Nat.le_of_eq g4.symm)
  have sb4 : h0.size ≤ b4 := Nat.le_trans K7.1 (Nat.le_of_eq g4.symm)
  have ne4_0 : b1 ≠ b4 := Nat.ne_of_lt (Nat.lt_of_lt_of_le f6.lt (Nat.le_of_eq g4.symm))
  have D4_x : Fld Z h4 b4 "com/example/evo_layout/evolayout/drawing/Point" "x" "D" (.double (0 : UInt64)) := D4 (Or.inr (hw _ (List.mem_of_getElem? (i := 25) rfl))) (ty := .double) (by decide)
  have D4_y : Fld Z h4 b4 "com/example/evo_layout/evolayout/drawing/Point" "y" "D" (.double (0 : UInt64)) := D4 (Or.inr (hw _ (List.mem_of_getElem? (i := 27) rfl))) (ty := .double) (by decide)
  refine Gl.by (g' := (mkF m 20 #[.val (.int p0), .val (.int p1), .val (.int p2), .val (.int p3), .val (.int p4), .val (.int p5), .val (.ref b1), .unset, .unset, .unset, .unset, .unset, .unset] [(.ref b4)])) st4 ?_
  refine Gl.by (g' := (mkF m 21 #[.val (.int p0), .val (.int p1), .val (.int p2), .val (.int p3), .val (.int p4), .val (.int p5), .val (.ref b1), .unset, .unset, .unset, .unset, .unset, .unset] [(.ref b4), (.ref b4)])) (fun _ k => XS.dup X4.here hx rfl (hb hby at_20) rfl rfl k) ?_
  refine Gl.by (g' := (mkF m 23 #[.val (.int p0), .val (.int p1), .val (.int p2), .val (.int p3), .val (.int p4), .val (.int p5), .val (.ref b1), .unset, .unset, .unset, .unset, .unset, .unset] [(.int p4), (.ref b4), (.ref b4)])) (fun _ k => XS.iload X4.here hx rfl (hb hby at_21) rfl k) ?_
  refine Gl.by (g' := (mkF m 24 #[.val (.int p0), .val (.int p1), .val (.int p2), .val (.int p3), .val (.int p4), .val (.int p5), .val (.ref b1), .unset, .unset, .unset, .unset, .unset, .unset] [(.double (FP.l2d (p4.toInt64))), (.ref b4), (.ref b4)])) (fun _ k => XS.i2dS X4.here hx rfl (hb hby at_23) rfl (i2d_w _) k) ?_
  refine Gl.by (g' := (mkF m 26 #[.val (.int p0), .val (.int p1), .val (.int p2), .val (.int p3), .val (.int p4), .val (.int p5), .val (.ref b1), .unset, .unset, .unset, .unset, .unset, .unset] [(.int p5), (.double (FP.l2d (p4.toInt64))), (.ref b4), (.ref b4)])) (fun _ k => XS.iload X4.here hx rfl (hb hby at_24) rfl k) ?_
  refine Gl.by (g' := (mkF m 27 #[.val (.int p0), .val (.int p1), .val (.int p2), .val (.int p3), .val (.int p4), .val (.int p5), .val (.ref b1), .unset, .unset, .unset, .unset, .unset, .unset] [(.double (FP.l2d (p5.toInt64))), (.double (FP.l2d (p4.toInt64))), (.ref b4), (.ref b4)])) (fun _ k => XS.i2dS X4.here hx rfl (hb hby at_26) rfl (i2d_w _) k) ?_
  have O9 := (O5.ext E4)
  obtain ⟨_, _, ⟨T8, L8, k8, n8⟩, -, X8, ⟨Lc8, hQ8, l8, y8, z8⟩, st8⟩ := X4.specialBack hx (y := (⟨"com/example/evo_layout/evolayout/drawing/Point", "<init>", "(DD)V"⟩ : MethodName)) rfl hown (mvT hZ (hw _ (List.mem_of_getElem? (i := 20) rfl))) (mvT hZ (hw _ (List.mem_of_getElem? (i := 21) rfl))) (mvT hZ (hw _ (List.mem_of_getElem? (i := 22) rfl))) (by decide) (backOf (W := 1) (rm3 l Z a0' hw [] b4 (FP.l2d (p4.toInt64)) (FP.l2d (p5.toInt64))  h4 n0 O9  A4 D4_x D4_y gb4) hZ (hw _ (List.mem_of_getElem? (i := 22) rfl)) (hw _ (List.mem_of_getElem? (i := 19) rfl)) (by decide) (by decide)) (g := (mkF m 27 #[.val (.int p0), .val (.int p1), .val (.int p2), .val (.int p3), .val (.int p4), .val (.int p5), .val (.ref b1), .unset, .unset, .unset, .unset, .unset, .unset] [(.double (FP.l2d (p5.toInt64))), (.double (FP.l2d (p4.toInt64))), (.ref b4), (.ref b4)])) rfl (by rw [hml]; rfl) (Steps.refl _) (a := b4) (argsL := [(.double (FP.l2d (p4.toInt64))), (.double (FP.l2d (p5.toInt64)))]) (rest := [(.ref b4)]) (lenOf pd67 rfl) rfl (by show 2 * 0 + _ ≤ _; exact Nat.le_of_eq rfl) (hb hby at_27) (fun _ _ => ⟨rfl, e4, (by decide : 2 + 0 ≤ _), (by decide : 6 + 0 ≤ _)⟩)
  dsimp only [Pt.U, Pt.locs, Pt.cells, Pt.slots] at X8 l8 y8 z8 st8 hQ8
  subst l8 y8 z8
  obtain ⟨rfl, N8q, Kc8, fc8_0, fc8_1⟩ := hQ8
  have N8 := Fr.app N2 N8q
  refine Gl.by (g' := (mkF m 30 #[.val (.int p0), .val (.int p1), .val (.int p2), .val (.int p3), .val (.int p4), .val (.int p5), .val (.ref b1), .unset, .unset, .unset, .unset, .unset, .unset] [(.ref b4)])) (fun _ k => st8.trans k) ?_
  refine Gl.by (g' := (mkF m 32 #[.val (.int p0), .val (.int p1), .val (.int p2), .val (.int p3), .val (.int p4), .val (.int p5), .val (.ref b1), .val (.ref b4), .unset, .unset, .unset, .unset, .unset] [])) (fun _ k => XS.astore X8.here hx rfl (hb hby at_30) rfl rfl (l' := #[.val (.int p0), .val (.int p1), .val (.int p2), .val (.int p3), .val (.int p4), .val (.int p5), .val (.ref b1), .val (.ref b4), .unset, .unset, .unset, .unset, .unset]) rfl k) ?_
  refine Gl.by (g' := (mkF m 34 #[.val (.int p0), .val (.int p1), .val (.int p2), .val (.int p3), .val (.int p4), .val (.int p5), .val (.ref b1), .val (.ref b4), .unset, .unset, .unset, .unset, .unset] [(.int p4)])) (fun _ k => XS.iload X8.here hx rfl (hb hby at_32) rfl k) ?_
  refine Gl.by (g' := (mkF m 35 #[.val (.int p0), .val (.int p1), .val (.int p2), .val (.int p3), .val (.int p4), .val (.int p5), .val (.ref b1), .val (.ref b4), .unset, .unset, .unset, .unset, .unset] [(.long (p4.toInt64))])) (fun _ k => XS.i2l X8.here hx rfl (hb hby at_34) rfl k) ?_
  refine Gl.by (g' := (mkF m 36 #[.val (.int p0), .val (.int p1), .val (.int p2), .val (.int p3), .val (.int p4), .val (.int p5), .val (.ref b1), .val (.ref b4), .unset, .unset, .unset, .unset, .unset] [(.int p0), (.long (p4.toInt64))])) (fun _ k => XS.iloadN X8.here hx rfl (hb hby at_35) rfl k) ?_
  refine Gl.by (g' := (mkF m 37 #[.val (.int p0), .val (.int p1), .val (.int p2), .val (.int p3), .val (.int p4), .val (.int p5), .val (.ref b1), .val (.ref b4), .unset, .unset, .unset, .unset, .unset] [(.long (p0.toInt64)), (.long (p4.toInt64))])) (fun _ k => XS.i2l X8.here hx rfl (hb hby at_36) rfl k) ?_
  refine Gl.by (g' := (mkF m 38 #[.val (.int p0), .val (.int p1), .val (.int p2), .val (.int p3), .val (.int p4), .val (.int p5), .val (.ref b1), .val (.ref b4), .unset, .unset, .unset, .unset, .unset] [(.long ((p4.toInt64) - (p0.toInt64)))])) (fun _ k => XS.lsub X8.here hx rfl (hb hby at_37) rfl k) ?_
  refine Gl.by (g' := (mkF m 40 #[.val (.int p0), .val (.int p1), .val (.int p2), .val (.int p3), .val (.int p4), .val (.int p5), .val (.ref b1), .val (.ref b4), .val (.long ((p4.toInt64) - (p0.toInt64))), .second, .unset, .unset, .unset] [])) (fun _ k => XS.lstore X8.here hx rfl (hb hby at_38) rfl (l' := #[.val (.int p0), .val (.int p1), .val (.int p2), .val (.int p3), .val (.int p4), .val (.int p5), .val (.ref b1), .val (.ref b4), .val (.long ((p4.toInt64) - (p0.toInt64))), .second, .unset, .unset, .unset]) rfl k) ?_
  refine Gl.by (g' := (mkF m 42 #[.val (.int p0), .val (.int p1), .val (.int p2), .val (.int p3), .val (.int p4), .val (.int p5), .val (.ref b1), .val (.ref b4), .val (.long ((p4.toInt64) - (p0.toInt64))), .second, .unset, .unset, .unset] [(.int p5)])) (fun _ k => XS.iload X8.here hx rfl (hb hby at_40) rfl k) ?_
  refine Gl.by (g' := (mkF m 43 #[.val (.int p0), .val (.int p1), .val (.int p2), .val (.int p3), .val (.int p4), .val (.int p5), .val (.ref b1), .val (.ref b4), .val (.long ((p4.toInt64) - (p0.toInt64))), .second, .unset, .unset, .unset] [(.long (p5.toInt64))])) (fun _ k => XS.i2l X8.here hx rfl (hb hby at_42) rfl k) ?_
  refine Gl.by (g' := (mkF m 44 #[.val (.int p0), .val (.int p1), .val (.int p2), .val (.int p3), .val (.int p4), .val (.int p5), .val (.ref b1), .val (.ref b4), .val (.long ((p4.toInt64) - (p0.toInt64))), .second, .unset, .unset, .unset] [(.int p1), (.long (p5.toInt64))])) (fun _ k => XS.iloadN X8.here hx rfl (hb hby at_43) rfl k) ?_
  refine Gl.by (g' := (mkF m 45 #[.val (.int p0), .val (.int p1), .val (.int p2), .val (.int p3), .val (.int p4), .val (.int p5), .val (.ref b1), .val (.ref b4), .val (.long ((p4.toInt64) - (p0.toInt64))), .second, .unset, .unset, .unset] [(.long (p1.toInt64)), (.long (p5.toInt64))])) (fun _ k => XS.i2l X8.here hx rfl (hb hby at_44) rfl k) ?_
  refine Gl.by (g' := (mkF m 46 #[.val (.int p0), .val (.int p1), .val (.int p2), .val (.int p3), .val (.int p4), .val (.int p5), .val (.ref b1), .val (.ref b4), .val (.long ((p4.toInt64) - (p0.toInt64))), .second, .unset, .unset, .unset] [(.long ((p5.toInt64) - (p1.toInt64)))])) (fun _ k => XS.lsub X8.here hx rfl (hb hby at_45) rfl k) ?_
  refine Gl.by (g' := (mkF m 48 #[.val (.int p0), .val (.int p1), .val (.int p2), .val (.int p3), .val (.int p4), .val (.int p5), .val (.ref b1), .val (.ref b4), .val (.long ((p4.toInt64) - (p0.toInt64))), .second, .val (.long ((p5.toInt64) - (p1.toInt64))), .second, .unset] [])) (fun _ k => XS.lstore X8.here hx rfl (hb hby at_46) rfl (l' := #[.val (.int p0), .val (.int p1), .val (.int p2), .val (.int p3), .val (.int p4), .val (.int p5), .val (.ref b1), .val (.ref b4), .val (.long ((p4.toInt64) - (p0.toInt64))), .second, .val (.long ((p5.toInt64) - (p1.toInt64))), .second, .unset]) rfl k) ?_
  refine Gl.by (g' := (mkF m 50 #[.val (.int p0), .val (.int p1), .val (.int p2), .val (.int p3), .val (.int p4), .val (.int p5), .val (.ref b1), .val (.ref b4), .val (.long ((p4.toInt64) - (p0.toInt64))), .second, .val (.long ((p5.toInt64) - (p1.toInt64))), .second, .unset] [(.long ((p4.toInt64) - (p0.toInt64)))])) (fun _ k => XS.lload X8.here hx rfl (hb hby at_48) rfl k) ?_
  refine Gl.by (g' := (mkF m 51 #[.val (.int p0), .val (.int p1), .val (.int p2), .val (.int p3), .val (.int p4), .val (.int p5), .val (.ref b1), .val (.ref b4), .val (.long ((p4.toInt64) - (p0.toInt64))), .second, .val (.long ((p5.toInt64) - (p1.toInt64))), .second, .unset] [(.long (0 : Int64)), (.long ((p4.toInt64) - (p0.toInt64)))])) (fun _ k => XS.lconst X8.here hx rfl (hb hby at_50) k) ?_
  refine Gl.by (g' := (mkF m 52 #[.val (.int p0), .val (.int p1), .val (.int p2), .val (.int p3), .val (.int p4), .val (.int p5), .val (.ref b1), .val (.ref b4), .val (.long ((p4.toInt64) - (p0.toInt64))), .second, .val (.long ((p5.toInt64) - (p1.toInt64))), .second, .unset] [(.int (lcmpW ((p4.toInt64) - (p0.toInt64)) (0 : Int64)))])) (fun _ k => XS.lcmp X8.here hx rfl (hb hby at_51) rfl k) ?_
  have J10 : ∀ (T' : State) (lc : List Loc) (X' : Stand p l e room_1 s m #[(.int p0), (.int p1), (.int p2), (.int p3), (.int p4), (.int p5)] below meth c T' lc 2 6) (eT : T'.heap = T8.heap) (N' : Fr n0 lc) (zj10_0 : Int32) (hz10_0 : zj10_0 = (fj0_0 p0 p1 p2 p3 p4 p5 )), Gl p e below (Pos 16 128 (Q0 Z p0 p1 p2 p3 p4 p5  h0 n0) s) T' (mkF m 83 #[.val (.int p0), .val (.int p1), .val (.int p2), .val (.int p3), .val (.int p4), .val (.int p5), .val (.ref b1), .val (.ref b4), .val (.long ((p4.toInt64) - (p0.toInt64))), .second, .val (.long ((p5.toInt64) - (p1.toInt64))), .second, .unset] [(.int zj10_0)]) := by
    intro T' lc X' eT N' zj10_0 hz10_0
    subst hz10_0
    refine Gl.by (g' := (mkF m 85 #[.val (.int p0), .val (.int p1), .val (.int p2), .val (.int p3), .val (.int p4), .val (.int p5), .val (.ref b1), .val (.ref b4), .val (.long ((p4.toInt64) - (p0.toInt64))), .second, .val (.long ((p5.toInt64) - (p1.toInt64))), .second, .val (.int (fj0_0 p0 p1 p2 p3 p4 p5 ))] [])) (fun _ k => XS.istore X'.here hx rfl (hb hby at_83) rfl (l' := #[.val (.int p0), .val (.int p1), .val (.int p2), .val (.int p3), .val (.int p4), .val (.int p5), .val (.ref b1), .val (.ref b4), .val (.long ((p4.toInt64) - (p0.toInt64))), .second, .val (.long ((p5.toInt64) - (p1.toInt64))), .second, .val (.int (fj0_0 p0 p1 p2 p3 p4 p5 ))]) rfl k) ?_
    refine Gl.by (g' := (mkF m 87 #[.val (.int p0), .val (.int p1), .val (.int p2), .val (.int p3), .val (.int p4), .val (.int p5), .val (.ref b1), .val (.ref b4), .val (.long ((p4.toInt64) - (p0.toInt64))), .second, .val (.long ((p5.toInt64) - (p1.toInt64))), .second, .val (.int (fj0_0 p0 p1 p2 p3 p4 p5 ))] [(.ref b1)])) (fun _ k => XS.aload X'.here hx rfl (hb hby at_85) rfl rfl k) ?_
    refine Gl.by (g' := (mkF m 89 #[.val (.int p0), .val (.int p1), .val (.int p2), .val (.int p3), .val (.int p4), .val (.int p5), .val (.ref b1), .val (.ref b4), .val (.long ((p4.toInt64) - (p0.toInt64))), .second, .val (.long ((p5.toInt64) - (p1.toInt64))), .second, .val (.int (fj0_0 p0 p1 p2 p3 p4 p5 ))] [(.ref b4), (.ref b1)])) (fun _ k => XS.aload X'.here hx rfl (hb hby at_87) rfl rfl k) ?_
    have f12 := (Exa.keep (Exa.ext E4 f6) Kc8)
    have f13 := (Exa.keep A4 Kc8)
    have f14 := (Fld.keep (Fld.ext E4 fc2_0) Kc8 (ninS ne4_0 nin0))
    have f15 := (Fld.keep (Fld.ext E4 fc2_1) Kc8 (ninS ne4_0 nin0))
    have f16 := (Fld.keep (Fld.ext E4 fc2_2) Kc8 (ninS ne4_0 nin0))
    have f17 := (Fld.keep (Fld.ext E4 fc2_3) Kc8 (ninS ne4_0 nin0))
    have O18 := (O9.keep Kc8 (allS gb4 all0))
    obtain ⟨cq11, kq11, q11a, q11b, q11c⟩ := isOf hZ eT f12
    obtain ⟨_, _, ⟨T11, L11, k11, n11⟩, -, X11, ⟨Lc11, hQ11, l11, y11, z11⟩, st11⟩ := X'.virtualBack hx (y := (⟨"com/example/evo_layout/evolayout/drawing/Box", "contains", "(Lcom/example/evo_layout/evolayout/drawing/Point;)Z"⟩ : MethodName)) (z := (⟨"com/example/evo_layout/evolayout/drawing/Box", "contains", "(Lcom/example/evo_layout/evolayout/drawing/Point;)Z"⟩ : MethodName)) hown (mvT hZ (hw _ (List.mem_of_getElem? (i := 28) rfl))) (mvT hZ (hw _ (List.mem_of_getElem? (i := 29) rfl))) (notFace_of_selects (args := #[]) (mvT hZ (hw _ (List.mem_of_getElem? (i := 31) rfl)))) (mvT hZ (hw _ (List.mem_of_getElem? (i := 31) rfl))) (mvT hZ (hw _ (List.mem_of_getElem? (i := 30) rfl))) (by decide) (backOf (W := 0) (rm4 l Z a0' hw [] b1 b4 p0 p1 p2 p3 p4 p5  T8.heap n0 O18  f12 f13 f14 f15 f16 f17 fc8_0 fc8_1) hZ (hw _ (List.mem_of_getElem? (i := 32) rfl)) (hw _ (List.mem_of_getElem? (i := 2) rfl)) (by decide) (by decide)) q11a q11c (g := (mkF m 89 #[.val (.int p0), .val (.int p1), .val (.int p2), .val (.int p3), .val (.int p4), .val (.int p5), .val (.ref b1), .val (.ref b4), .val (.long ((p4.toInt64) - (p0.toInt64))), .second, .val (.long ((p5.toInt64) - (p1.toInt64))), .second, .val (.int (fj0_0 p0 p1 p2 p3 p4 p5 ))] [(.ref b4), (.ref b1)])) rfl (by rw [hml]; rfl) (Steps.refl _) (argsL := [(.ref b4)]) (rest := []) (lenOf pd68 rfl) rfl (by show 2 * 0 + _ ≤ _; exact Nat.le_of_eq rfl) (hb hby at_89) (fun _ _ => ⟨rfl, eT, (by decide : 2 + 0 ≤ _), (by decide : 6 + 0 ≤ _)⟩)
    dsimp only [Pt.U, Pt.locs, Pt.cells, Pt.slots] at X11 l11 y11 z11 st11 hQ11
    subst l11 y11 z11
    obtain ⟨rfl, N11q, e11⟩ := hQ11
    have N11 := Fr.app N' N11q
    refine Gl.by (g' := (mkF m 92 #[.val (.int p0), .val (.int p1), .val (.int p2), .val (.int p3), .val (.int p4), .val (.int p5), .val (.ref b1), .val (.ref b4), .val (.long ((p4.toInt64) - (p0.toInt64))), .second, .val (.long ((p5.toInt64) - (p1.toInt64))), .second, .val (.int (fj0_0 p0 p1 p2 p3 p4 p5 ))] [(.int (fn4 p0 p1 p2 p3 p4 p5 ))])) (fun _ k => st11.trans k) ?_
    refine Gl.by (g' := (mkF m 94 #[.val (.int p0), .val (.int p1), .val (.int p2), .val (.int p3), .val (.int p4), .val (.int p5), .val (.ref b1), .val (.ref b4), .val (.long ((p4.toInt64) - (p0.toInt64))), .second, .val (.long ((p5.toInt64) - (p1.toInt64))), .second, .val (.int (fj0_0 p0 p1 p2 p3 p4 p5 ))] [(.int (fj0_0 p0 p1 p2 p3 p4 p5 )), (.int (fn4 p0 p1 p2 p3 p4 p5 ))])) (fun _ k => XS.iload X11.here hx rfl (hb hby at_92) rfl k) ?_
    have J19 : ∀ (T' : State) (lc : List Loc) (X' : Stand p l e room_1 s m #[(.int p0), (.int p1), (.int p2), (.int p3), (.int p4), (.int p5)] below meth c T' lc 2 6) (eT : T'.heap = T8.heap) (N' : Fr n0 lc) (zj19_0 : Int32) (hz19_0 : zj19_0 = (fj0_1 p0 p1 p2 p3 p4 p5 )), Gl p e below (Pos 16 128 (Q0 Z p0 p1 p2 p3 p4 p5  h0 n0) s) T' (mkF m 102 #[.val (.int p0), .val (.int p1), .val (.int p2), .val (.int p3), .val (.int p4), .val (.int p5), .val (.ref b1), .val (.ref b4), .val (.long ((p4.toInt64) - (p0.toInt64))), .second, .val (.long ((p5.toInt64) - (p1.toInt64))), .second, .val (.int (fj0_0 p0 p1 p2 p3 p4 p5 ))] [(.int zj19_0)]) := by
      intro T' lc X' eT N' zj19_0 hz19_0
      subst hz19_0
      exact Gl.outN X' hx hk (t := .boolean) Bd.returns (by simp) (hb hby at_102) ⟨(congrArg (fun z => some (Value.int z)) (show nar .boolean (fj0_1 p0 p1 p2 p3 p4 p5 ) = fn0 p0 p1 p2 p3 p4 p5  by unfold fn0; try rfl)), N'⟩ (by decide) (by decide)
    by_cases hc20 : (fn4 p0 p1 p2 p3 p4 p5 ) = (fj0_0 p0 p1 p2 p3 p4 p5 )
    · refine Gl.by (g' := (mkF m 97 #[.val (.int p0), .val (.int p1), .val (.int p2), .val (.int p3), .val (.int p4), .val (.int p5), .val (.ref b1), .val (.ref b4), .val (.long ((p4.toInt64) - (p0.toInt64))), .second, .val (.long ((p5.toInt64) - (p1.toInt64))), .second, .val (.int (fj0_0 p0 p1 p2 p3 p4 p5 ))] [])) (fun _ k => XS.icmpNo X11.here hx rfl (hb hby at_94) rfl (teq hc20).2 k) ?_
      refine Gl.by (g' := (mkF m 98 #[.val (.int p0), .val (.int p1), .val (.int p2), .val (.int p3), .val (.int p4), .val (.int p5), .val (.ref b1), .val (.ref b4), .val (.long ((p4.toInt64) - (p0.toInt64))), .second, .val (.long ((p5.toInt64) - (p1.toInt64))), .second, .val (.int (fj0_0 p0 p1 p2 p3 p4 p5 ))] [(.int (1 : Int32))])) (fun _ k => XS.iconst X11.here hx rfl (hb hby at_97) k) ?_
      refine Gl.by (g' := (mkF m 102 #[.val (.int p0), .val (.int p1), .val (.int p2), .val (.int p3), .val (.int p4), .val (.int p5), .val (.ref b1), .val (.ref b4), .val (.long ((p4.toInt64) - (p0.toInt64))), .second, .val (.long ((p5.toInt64) - (p1.toInt64))), .second, .val (.int (fj0_0 p0 p1 p2 p3 p4 p5 ))] [(.int (1 : Int32))])) (fun _ k => XS.goto X11.here hx rfl (pc0 := 98) (pc' := 102) rfl (hb hby at_98) (by decide) (by decide) k) ?_
      exact J19 _ _ X11 e11 N11 (1 : Int32) (show (1 : Int32) = (fj0_1 p0 p1 p2 p3 p4 p5 ) by unfold fj0_1; rw [if_pos hc20]; try rfl)
    · refine Gl.by (g' := (mkF m 101 #[.val (.int p0), .val (.int p1), .val (.int p2), .val (.int p3), .val (.int p4), .val (.int p5), .val (.ref b1), .val (.ref b4), .val (.long ((p4.toInt64) - (p0.toInt64))), .second, .val (.long ((p5.toInt64) - (p1.toInt64))), .second, .val (.int (fj0_0 p0 p1 p2 p3 p4 p5 ))] [])) (fun _ k => XS.icmpYes X11.here hx rfl (pc0 := 94) (pc' := 101) rfl (hb hby at_94) rfl (feq hc20).2 (by decide) (by decide) k) ?_
      refine Gl.by (g' := (mkF m 102 #[.val (.int p0), .val (.int p1), .val (.int p2), .val (.int p3), .val (.int p4), .val (.int p5), .val (.ref b1), .val (.ref b4), .val (.long ((p4.toInt64) - (p0.toInt64))), .second, .val (.long ((p5.toInt64) - (p1.toInt64))), .second, .val (.int (fj0_0 p0 p1 p2 p3 p4 p5 ))] [(.int (0 : Int32))])) (fun _ k => XS.iconst X11.here hx rfl (hb hby at_101) k) ?_
      exact J19 _ _ X11 e11 N11 (0 : Int32) (show (0 : Int32) = (fj0_1 p0 p1 p2 p3 p4 p5 ) by unfold fj0_1; rw [if_neg hc20]; try rfl)
  by_cases hc21 : ((p4.toInt64) - (p0.toInt64)) < (0 : Int64)
  · refine Gl.by (g' := (mkF m 82 #[.val (.int p0), .val (.int p1), .val (.int p2), .val (.int p3), .val (.int p4), .val (.int p5), .val (.ref b1), .val (.ref b4), .val (.long ((p4.toInt64) - (p0.toInt64))), .second, .val (.long ((p5.toInt64) - (p1.toInt64))), .second, .unset] [])) (fun _ k => XS.ifYes X8.here hx rfl (pc0 := 52) (pc' := 82) rfl (hb hby at_52) rfl ((if0 _ _).trans (tlt ((lw_lt ((p4.toInt64) - (p0.toInt64)) (0 : Int64)).mpr hc21)).1) (by decide) (by decide) k) ?_
    refine Gl.by (g' := (mkF m 83 #[.val (.int p0), .val (.int p1), .val (.int p2), .val (.int p3), .val (.int p4), .val (.int p5), .val (.ref b1), .val (.ref b4), .val (.long ((p4.toInt64) - (p0.toInt64))), .second, .val (.long ((p5.toInt64) - (p1.toInt64))), .second, .unset] [(.int (0 : Int32))])) (fun _ k => XS.iconst X8.here hx rfl (hb hby at_82) k) ?_
    exact J10 _ _ X8 rfl N8 (0 : Int32) (show (0 : Int32) = (fj0_0 p0 p1 p2 p3 p4 p5 ) by unfold fj0_0; rw [if_pos hc21]; try rfl)
  · refine Gl.by (g' := (mkF m 55 #[.val (.int p0), .val (.int p1), .val (.int p2), .val (.int p3), .val (.int p4), .val (.int p5), .val (.ref b1), .val (.ref b4), .val (.long ((p4.toInt64) - (p0.toInt64))), .second, .val (.long ((p5.toInt64) - (p1.toInt64))), .second, .unset] [])) (fun _ k => XS.ifNo X8.here hx rfl (hb hby at_52) rfl ((if0 _ _).trans (flt (fun q => hc21 ((lw_lt ((p4.toInt64) - (p0.toInt64)) (0 : Int64)).mp q))).1) k) ?_
    refine Gl.by (g' := (mkF m 57 #[.val (.int p0), .val (.int p1), .val (.int p2), .val (.int p3), .val (.int p4), .val (.int p5), .val (.ref b1), .val (.ref b4), .val (.long ((p4.toInt64) - (p0.toInt64))), .second, .val (.long ((p5.toInt64) - (p1.toInt64))), .second, .unset] [(.long ((p4.toInt64) - (p0.toInt64)))])) (fun _ k => XS.lload X8.here hx rfl (hb hby at_55) rfl k) ?_
    refine Gl.by (g' := (mkF m 58 #[.val (.int p0), .val (.int p1), .val (.int p2), .val (.int p3), .val (.int p4), .val (.int p5), .val (.ref b1), .val (.ref b4), .val (.long ((p4.toInt64) - (p0.toInt64))), .second, .val (.long ((p5.toInt64) - (p1.toInt64))), .second, .unset] [(.int p2), (.long ((p4.toInt64) - (p0.toInt64)))])) (fun _ k => XS.iloadN X8.here hx rfl (hb hby at_57) rfl k) ?_
    refine Gl.by (g' := (mkF m 59 #[.val (.int p0), .val (.int p1), .val (.int p2), .val (.int p3), .val (.int p4), .val (.int p5), .val (.ref b1), .val (.ref b4), .val (.long ((p4.toInt64) - (p0.toInt64))), .second, .val (.long ((p5.toInt64) - (p1.toInt64))), .second, .unset] [(.long (p2.toInt64)), (.long ((p4.toInt64) - (p0.toInt64)))])) (fun _ k => XS.i2l X8.here hx rfl (hb hby at_58) rfl k) ?_
    refine Gl.by (g' := (mkF m 60 #[.val (.int p0), .val (.int p1), .val (.int p2), .val (.int p3), .val (.int p4), .val (.int p5), .val (.ref b1), .val (.ref b4), .val (.long ((p4.toInt64) - (p0.toInt64))), .second, .val (.long ((p5.toInt64) - (p1.toInt64))), .second, .unset] [(.int (lcmpW ((p4.toInt64) - (p0.toInt64)) (p2.toInt64)))])) (fun _ k => XS.lcmp X8.here hx rfl (hb hby at_59) rfl k) ?_
    by_cases hc22 : (p2.toInt64) < ((p4.toInt64) - (p0.toInt64))
    · refine Gl.by (g' := (mkF m 82 #[.val (.int p0), .val (.int p1), .val (.int p2), .val (.int p3), .val (.int p4), .val (.int p5), .val (.ref b1), .val (.ref b4), .val (.long ((p4.toInt64) - (p0.toInt64))), .second, .val (.long ((p5.toInt64) - (p1.toInt64))), .second, .unset] [])) (fun _ k => XS.ifYes X8.here hx rfl (pc0 := 60) (pc' := 82) rfl (hb hby at_60) rfl ((if0 _ _).trans (tlt ((lw_gt ((p4.toInt64) - (p0.toInt64)) (p2.toInt64)).mpr hc22)).2.2.1) (by decide) (by decide) k) ?_
      refine Gl.by (g' := (mkF m 83 #[.val (.int p0), .val (.int p1), .val (.int p2), .val (.int p3), .val (.int p4), .val (.int p5), .val (.ref b1), .val (.ref b4), .val (.long ((p4.toInt64) - (p0.toInt64))), .second, .val (.long ((p5.toInt64) - (p1.toInt64))), .second, .unset] [(.int (0 : Int32))])) (fun _ k => XS.iconst X8.here hx rfl (hb hby at_82) k) ?_
      exact J10 _ _ X8 rfl N8 (0 : Int32) (show (0 : Int32) = (fj0_0 p0 p1 p2 p3 p4 p5 ) by unfold fj0_0; rw [if_neg hc21, if_pos hc22]; try rfl)
    · refine Gl.by (g' := (mkF m 63 #[.val (.int p0), .val (.int p1), .val (.int p2), .val (.int p3), .val (.int p4), .val (.int p5), .val (.ref b1), .val (.ref b4), .val (.long ((p4.toInt64) - (p0.toInt64))), .second, .val (.long ((p5.toInt64) - (p1.toInt64))), .second, .unset] [])) (fun _ k => XS.ifNo X8.here hx rfl (hb hby at_60) rfl ((if0 _ _).trans (flt (fun q => hc22 ((lw_gt ((p4.toInt64) - (p0.toInt64)) (p2.toInt64)).mp q))).2.2.1) k) ?_
      refine Gl.by (g' := (mkF m 65 #[.val (.int p0), .val (.int p1), .val (.int p2), .val (.int p3), .val (.int p4), .val (.int p5), .val (.ref b1), .val (.ref b4), .val (.long ((p4.toInt64) - (p0.toInt64))), .second, .val (.long ((p5.toInt64) - (p1.toInt64))), .second, .unset] [(.long ((p5.toInt64) - (p1.toInt64)))])) (fun _ k => XS.lload X8.here hx rfl (hb hby at_63) rfl k) ?_
      refine Gl.by (g' := (mkF m 66 #[.val (.int p0), .val (.int p1), .val (.int p2), .val (.int p3), .val (.int p4), .val (.int p5), .val (.ref b1), .val (.ref b4), .val (.long ((p4.toInt64) - (p0.toInt64))), .second, .val (.long ((p5.toInt64) - (p1.toInt64))), .second, .unset] [(.long (0 : Int64)), (.long ((p5.toInt64) - (p1.toInt64)))])) (fun _ k => XS.lconst X8.here hx rfl (hb hby at_65) k) ?_
      refine Gl.by (g' := (mkF m 67 #[.val (.int p0), .val (.int p1), .val (.int p2), .val (.int p3), .val (.int p4), .val (.int p5), .val (.ref b1), .val (.ref b4), .val (.long ((p4.toInt64) - (p0.toInt64))), .second, .val (.long ((p5.toInt64) - (p1.toInt64))), .second, .unset] [(.int (lcmpW ((p5.toInt64) - (p1.toInt64)) (0 : Int64)))])) (fun _ k => XS.lcmp X8.here hx rfl (hb hby at_66) rfl k) ?_
      by_cases hc23 : ((p5.toInt64) - (p1.toInt64)) < (0 : Int64)
      · refine Gl.by (g' := (mkF m 82 #[.val (.int p0), .val (.int p1), .val (.int p2), .val (.int p3), .val (.int p4), .val (.int p5), .val (.ref b1), .val (.ref b4), .val (.long ((p4.toInt64) - (p0.toInt64))), .second, .val (.long ((p5.toInt64) - (p1.toInt64))), .second, .unset] [])) (fun _ k => XS.ifYes X8.here hx rfl (pc0 := 67) (pc' := 82) rfl (hb hby at_67) rfl ((if0 _ _).trans (tlt ((lw_lt ((p5.toInt64) - (p1.toInt64)) (0 : Int64)).mpr hc23)).1) (by decide) (by decide) k) ?_
        refine Gl.by (g' := (mkF m 83 #[.val (.int p0), .val (.int p1), .val (.int p2), .val (.int p3), .val (.int p4), .val (.int p5), .val (.ref b1), .val (.ref b4), .val (.long ((p4.toInt64) - (p0.toInt64))), .second, .val (.long ((p5.toInt64) - (p1.toInt64))), .second, .unset] [(.int (0 : Int32))])) (fun _ k => XS.iconst X8.here hx rfl (hb hby at_82) k) ?_
        exact J10 _ _ X8 rfl N8 (0 : Int32) (show (0 : Int32) = (fj0_0 p0 p1 p2 p3 p4 p5 ) by unfold fj0_0; rw [if_neg hc21, if_neg hc22, if_pos hc23]; try rfl)
      · refine Gl.by (g' := (mkF m 70 #[.val (.int p0), .val (.int p1), .val (.int p2), .val (.int p3), .val (.int p4), .val (.int p5), .val (.ref b1), .val (.ref b4), .val (.long ((p4.toInt64) - (p0.toInt64))), .second, .val (.long ((p5.toInt64) - (p1.toInt64))), .second, .unset] [])) (fun _ k => XS.ifNo X8.here hx rfl (hb hby at_67) rfl ((if0 _ _).trans (flt (fun q => hc23 ((lw_lt ((p5.toInt64) - (p1.toInt64)) (0 : Int64)).mp q))).1) k) ?_
        refine Gl.by (g' := (mkF m 72 #[.val (.int p0), .val (.int p1), .val (.int p2), .val (.int p3), .val (.int p4), .val (.int p5), .val (.ref b1), .val (.ref b4), .val (.long ((p4.toInt64) - (p0.toInt64))), .second, .val (.long ((p5.toInt64) - (p1.toInt64))), .second, .unset] [(.long ((p5.toInt64) - (p1.toInt64)))])) (fun _ k => XS.lload X8.here hx rfl (hb hby at_70) rfl k) ?_
        refine Gl.by (g' := (mkF m 73 #[.val (.int p0), .val (.int p1), .val (.int p2), .val (.int p3), .val (.int p4), .val (.int p5), .val (.ref b1), .val (.ref b4), .val (.long ((p4.toInt64) - (p0.toInt64))), .second, .val (.long ((p5.toInt64) - (p1.toInt64))), .second, .unset] [(.int p3), (.long ((p5.toInt64) - (p1.toInt64)))])) (fun _ k => XS.iloadN X8.here hx rfl (hb hby at_72) rfl k) ?_
        refine Gl.by (g' := (mkF m 74 #[.val (.int p0), .val (.int p1), .val (.int p2), .val (.int p3), .val (.int p4), .val (.int p5), .val (.ref b1), .val (.ref b4), .val (.long ((p4.toInt64) - (p0.toInt64))), .second, .val (.long ((p5.toInt64) - (p1.toInt64))), .second, .unset] [(.long (p3.toInt64)), (.long ((p5.toInt64) - (p1.toInt64)))])) (fun _ k => XS.i2l X8.here hx rfl (hb hby at_73) rfl k) ?_
        refine Gl.by (g' := (mkF m 75 #[.val (.int p0), .val (.int p1), .val (.int p2), .val (.int p3), .val (.int p4), .val (.int p5), .val (.ref b1), .val (.ref b4), .val (.long ((p4.toInt64) - (p0.toInt64))), .second, .val (.long ((p5.toInt64) - (p1.toInt64))), .second, .unset] [(.int (lcmpW ((p5.toInt64) - (p1.toInt64)) (p3.toInt64)))])) (fun _ k => XS.lcmp X8.here hx rfl (hb hby at_74) rfl k) ?_
        by_cases hc24 : (p3.toInt64) < ((p5.toInt64) - (p1.toInt64))
        · refine Gl.by (g' := (mkF m 82 #[.val (.int p0), .val (.int p1), .val (.int p2), .val (.int p3), .val (.int p4), .val (.int p5), .val (.ref b1), .val (.ref b4), .val (.long ((p4.toInt64) - (p0.toInt64))), .second, .val (.long ((p5.toInt64) - (p1.toInt64))), .second, .unset] [])) (fun _ k => XS.ifYes X8.here hx rfl (pc0 := 75) (pc' := 82) rfl (hb hby at_75) rfl ((if0 _ _).trans (tlt ((lw_gt ((p5.toInt64) - (p1.toInt64)) (p3.toInt64)).mpr hc24)).2.2.1) (by decide) (by decide) k) ?_
          refine Gl.by (g' := (mkF m 83 #[.val (.int p0), .val (.int p1), .val (.int p2), .val (.int p3), .val (.int p4), .val (.int p5), .val (.ref b1), .val (.ref b4), .val (.long ((p4.toInt64) - (p0.toInt64))), .second, .val (.long ((p5.toInt64) - (p1.toInt64))), .second, .unset] [(.int (0 : Int32))])) (fun _ k => XS.iconst X8.here hx rfl (hb hby at_82) k) ?_
          exact J10 _ _ X8 rfl N8 (0 : Int32) (show (0 : Int32) = (fj0_0 p0 p1 p2 p3 p4 p5 ) by unfold fj0_0; rw [if_neg hc21, if_neg hc22, if_neg hc23, if_pos hc24]; try rfl)
        · refine Gl.by (g' := (mkF m 78 #[.val (.int p0), .val (.int p1), .val (.int p2), .val (.int p3), .val (.int p4), .val (.int p5), .val (.ref b1), .val (.ref b4), .val (.long ((p4.toInt64) - (p0.toInt64))), .second, .val (.long ((p5.toInt64) - (p1.toInt64))), .second, .unset] [])) (fun _ k => XS.ifNo X8.here hx rfl (hb hby at_75) rfl ((if0 _ _).trans (flt (fun q => hc24 ((lw_gt ((p5.toInt64) - (p1.toInt64)) (p3.toInt64)).mp q))).2.2.1) k) ?_
          refine Gl.by (g' := (mkF m 79 #[.val (.int p0), .val (.int p1), .val (.int p2), .val (.int p3), .val (.int p4), .val (.int p5), .val (.ref b1), .val (.ref b4), .val (.long ((p4.toInt64) - (p0.toInt64))), .second, .val (.long ((p5.toInt64) - (p1.toInt64))), .second, .unset] [(.int (1 : Int32))])) (fun _ k => XS.iconst X8.here hx rfl (hb hby at_78) k) ?_
          refine Gl.by (g' := (mkF m 83 #[.val (.int p0), .val (.int p1), .val (.int p2), .val (.int p3), .val (.int p4), .val (.int p5), .val (.ref b1), .val (.ref b4), .val (.long ((p4.toInt64) - (p0.toInt64))), .second, .val (.long ((p5.toInt64) - (p1.toInt64))), .second, .unset] [(.int (1 : Int32))])) (fun _ k => XS.goto X8.here hx rfl (pc0 := 79) (pc' := 83) rfl (hb hby at_79) (by decide) (by decide) k) ?_
          exact J10 _ _ X8 rfl N8 (1 : Int32) (show (1 : Int32) = (fj0_0 p0 p1 p2 p3 p4 p5 ) by unfold fj0_0; rw [if_neg hc21, if_neg hc22, if_neg hc23, if_neg hc24]; try rfl)
theorem plain (p0 p1 p2 p3 p4 p5 : Int32) : fn0 p0 p1 p2 p3 p4 p5  = 1 := by
  have l1 (x y : Int32) : (x.toInt64 < y.toInt64) = ((x.toInt64 - y.toInt64) < (0 : Int64)) := propext (by
    have q := sub64 (b53i x) (b53i y)
    have z : (0 : Int64).toInt = 0 := by decide
    rw [Int64.lt_iff_toInt_lt, Int64.lt_iff_toInt_lt, q, z]
    omega)
  have l2 (x y z : Int32) : ((y.toInt64 + z.toInt64) < x.toInt64) = (z.toInt64 < (x.toInt64 - y.toInt64)) := propext (by
    have q := sub64 (b53i x) (b53i y)
    have q2 := add64 (b53i y) (b53i z)
    rw [Int64.lt_iff_toInt_lt, Int64.lt_iff_toInt_lt, q, q2]
    omega)
  have e : fn4 p0 p1 p2 p3 p4 p5 = fj0_0 p0 p1 p2 p3 p4 p5 := by
    unfold fn4 fj0_0
    simp only [l1 p4 p0, l2 p4 p0 p2, l1 p5 p1, l2 p5 p1 p3]
  unfold fn0 fj0_1
  rw [if_pos e]
  rfl
set_option maxRecDepth 65536 in
set_option maxHeartbeats 40000000 in
theorem comes_1 {Post : Tables → Env → Array Value → State → Outcome → State → Prop} (hpost : ∀ tb e args s v u, (limb_1_1.after args s (.returned v) u = true ∧ limb_1_2.after args s (.returned v) u = true ∧ True) → FrameEnd s (.returned v) u (Jvm.fieldLocs frame_1_writes args s ++ Jvm.arrayLocs frame_1_arrays args s ++ Jvm.staticLocs frame_1_statics s) 16 128 → Post tb e args s (.returned v) u) :
    ArmFor flags0 classFile x code maxLocals ret World_1 tables_1 room_1 Calls_1 rest_1 Pre_1 Post := by
  intro l hfl _ _ p e ha hc hk s m args below hf hA hF happ hP
  obtain ⟨hcalls, hrest, hpre⟩ := hP
  obtain ⟨-, -, -, hnamed, -, -, -, hat⟩ := (Spec.applies_iff hf).mp happ
  obtain ⟨hg, hn⟩ := and_e (Cond.before_iff.mp (show (Jvm.Cond.and given_1 narrow_1).before args s = true from hpre))
  obtain ⟨ga1, gb1⟩ := and_e hg
  obtain ⟨ga2, gb2⟩ := and_e gb1
  obtain ⟨ga3, gb3⟩ := and_e gb2
  obtain ⟨ga4, gb4⟩ := and_e gb3
  obtain ⟨ga5, gb5⟩ := and_e gb4
  obtain ⟨ga6, gb6⟩ := and_e gb5
  obtain ⟨w0, w1, w2, w3, w4, w5, rfl⟩ : ∃ w0 w1 w2 w3 w4 w5 : Value, args = #[w0, w1, w2, w3, w4, w5] := by
    have hs : args.size = 6 := by simpa [Cond.value, given_1] using ga1
    obtain ⟨L⟩ := args
    match L, hs with
    | [w0, w1, w2, w3, w4, w5], _ => exact ⟨w0, w1, w2, w3, w4, w5, rfl⟩
  have hw := fun d (hd : d ∈ tables_1) => atoms_spec (ws := Jvm.Cond.code x code maxLocals ret :: tables_1) hat d (List.mem_cons_of_mem _ hd)
  have hfit : Fit s := fun {y c} hc i hi => by
    obtain ⟨ha, rfl⟩ := Array.getElem?_eq_some_iff.mp hc
    have q := List.all_eq_true.mp ((Array.all_eq_true_iff_forall_mem.mp hF) _ (Array.getElem_mem ha)) i (List.mem_range.mpr hi)
    simpa [Array.getElem?_eq_getElem hi] using q
  obtain ⟨i0, ei0⟩ := is_v ga2
  obtain rfl : w0 = (.int i0) := Option.some.inj ei0
  obtain ⟨i1, ei1⟩ := is_v ga3
  obtain rfl : w1 = (.int i1) := Option.some.inj ei1
  obtain ⟨i2, ei2⟩ := is_v ga4
  obtain rfl : w2 = (.int i2) := Option.some.inj ei2
  obtain ⟨i3, ei3⟩ := is_v ga5
  obtain rfl : w3 = (.int i3) := Option.some.inj ei3
  obtain ⟨i4, ei4⟩ := is_v ga6
  obtain rfl : w4 = (.int i4) := Option.some.inj ei4
  obtain ⟨i5, ei5⟩ := is_v gb6
  obtain rfl : w5 = (.int i5) := Option.some.inj ei5
  have hpl : fn0 i0 i1 i2 i3 i4 i5  = 1 := plain i0 i1 i2 i3 i4 i5 
  obtain ⟨n, o, h1, h2, h3, v, L, rfl, ⟨hv, N⟩, hq⟩ := rm0 l s _ hw tables_1 i0 i1 i2 i3 i4 i5  s.heap s.heap.size (Old.start s)  p e ha hc hk s m _ below hf ((Spec.applies_iff_loose hf).mp happ).1 ⟨rfl, State.Warmed39.refl s, rfl⟩ trivial
  rw [hpl] at hv
  subst hv
  refine ⟨n, _, h1, h2, h3, hpost _ _ _ _ _ _ ⟨Cond.after_iff.mpr rfl, Cond.after_iff.mpr (eq_i res_at (Term.int_eval (1)) rfl), trivial⟩ ⟨hq.1, hq.2.1, (hq.2.2.sift fun y hy => Or.inr (N y hy)).mono (by decide) (by decide)⟩⟩
theorem main_1_1 : Claimed_1_1 := comes_1 fun _ _ _ _ _ _ h hF => ⟨h.1, hF⟩
theorem main_1_2 : Claimed_1_2 := comes_1 fun _ _ _ _ _ _ h hF => ⟨h.2.1, hF⟩
end Jvm.Pilot.@@N@@
/-! WITNESS -/
namespace Jvm.Pilot.@@N@@
open Jvm Jvm.ClassFile Sem Op Lib Jvm.Free Jvm.Stand Jvm.Pilot.@@N@@.Jvm.D
/-! MADE BY PROGRAM (witnessworld.py) out of the Statement's table words and the real class files: 10 classes; the members and pool entries that the words name. The judged class is class 1, her method 1. -/
namespace start1
open Jvm.ClassFile
def u (s : String) : CpInfo := .utf8 (stringToUtf16 s)
/-- a pool by its gaps: so many unusable entries, then the entry; so many at the end -/
def gap : Nat → List CpInfo → List CpInfo
  | 0, r => r
  | n + 1, r => .unusable :: gap n r
def poolList (es : List (Nat × CpInfo)) (last : Nat) : List CpInfo := es.foldr (fun e r => gap e.1 (e.2 :: r)) (gap last [])
def pool (es : List (Nat × CpInfo)) (last : Nat) : Array CpInfo := ⟨poolList es last⟩
def fileOf (pool : Array CpInfo) (this : Nat) (attrs : Array Attribute := #[]) (ms : Array MethodInfo := #[]) (fl : Nat := 33) (sup : Nat := 0) (ifs : Array Nat := #[]) (fds : Array FieldInfo := #[]) : ClassFile where
  minorVersion := 0
  majorVersion := 65
  constantPool := pool
  accessFlags := fl
  thisClass := this
  superClass := sup
  interfaces := ifs
  fields := fds
  methods := ms
  attributes := attrs
def plain (name : String) (sup : Option ClassId) : Class where
  name := name
  kind := .ordinary
  loader := none
  accessFlags := 33
  super := sup
  interfaces := #[]
  cf := none
  fields := #[]
  methods := #[]
  instanceTypes := #[]
  staticTypes := #[]
  resolved := #[]
  callSites := []
  init := .initialized
  statics := none
  mirror := none

def pool0 : Array CpInfo := pool [(5, u "<init>"), (0, u "()V"), (1, .class_ 10), (1, u "java/lang/Object")] 113

def k0c0 : Code := { maxStack := 0, maxLocals := 1, code := object_method_1_code, exceptionTable := #[], attributes := #[] }
def k0m0 : Method := { name := "<init>", desc := "()V", sig := { parameters := [], returnType := none }, accessFlags := 1, code := some k0c0 }
/-- java/lang/Object -/
def k0 : Class := { plain "java/lang/Object" none with
  accessFlags := 33
  interfaces := #[]
  cf := some (fileOf pool0 8 #[] #[{ accessFlags := 1, nameIndex := 5, descriptorIndex := 6, attributes := #[] }] 33 0 #[] #[])
  fields := #[]
  methods := #[k0m0]
  instanceTypes := #[]
  staticTypes := #[]
  resolved := Array.replicate 124 none
  statics := none }

def pool1 : Array CpInfo := pool [(2, .class_ 4), (1, u "java/lang/Object"), (0, u "<init>"), (0, u "()V"), (0, .class_ 8), (0, u "com/example/evo_layout/evolayout/drawing/Box"), (0, .methodref 7 10), (0, .nameAndType 5 11), (0, u "(DDDD)V"), (0, .class_ 13), (0, u "com/example/evo_layout/evolayout/drawing/Point"), (0, .methodref 12 15), (0, .nameAndType 5 16), (0, u "(DD)V"), (0, .methodref 7 18), (0, .nameAndType 19 20), (0, u "contains"), (0, u "(Lcom/example/evo_layout/evolayout/drawing/Point;)Z"), (0, .class_ 22), (0, u "com/example/evo_layout/evolayout/drawing/BoxContainsPinLaw"), (2, u "law"), (0, u "(IIIIII)Z")] 3

def k1m0 : Method := { name := "<init>", desc := "()V", sig := { parameters := [], returnType := none }, accessFlags := 1, code := none }
def k1c1 : Code := { maxStack := 10, maxLocals := 13, code := code, exceptionTable := #[], attributes := #[] }
def k1m1 : Method := { name := "law", desc := "(IIIIII)Z", sig := { parameters := [.int, .int, .int, .int, .int, .int], returnType := some .boolean }, accessFlags := 9, code := some k1c1 }
/-- com/example/evo_layout/evolayout/drawing/BoxContainsPinLaw -/
def k1 : Class := { plain "com/example/evo_layout/evolayout/drawing/BoxContainsPinLaw" (some 0) with
  accessFlags := 49
  interfaces := #[]
  cf := some (fileOf pool1 21 #[] #[{ accessFlags := 1, nameIndex := 5, descriptorIndex := 6, attributes := #[] }, { accessFlags := 9, nameIndex := 25, descriptorIndex := 26, attributes := #[] }] 49 2 #[] #[])
  fields := #[]
  methods := #[k1m0, k1m1]
  instanceTypes := #[]
  staticTypes := #[]
  resolved := Array.replicate 30 none
  statics := none }

def pool2 : Array CpInfo := pool [(1, .methodref 2 3), (0, .class_ 4), (0, .nameAndType 5 6), (0, u "java/lang/Object"), (0, u "<init>"), (0, u "()V"), (0, .fieldref 8 9), (0, .class_ 10), (0, .nameAndType 11 12), (0, u "com/example/evo_layout/evolayout/drawing/Box"), (0, u "x"), (0, u "D"), (0, .fieldref 8 14), (0, .nameAndType 15 12), (0, u "y"), (0, .fieldref 8 17), (0, .nameAndType 18 12), (0, u "width"), (0, .fieldref 8 20), (0, .nameAndType 21 12), (0, u "height"), (0, .class_ 23), (0, u "com/example/evo_layout/evolayout/drawing/Point"), (5, .methodref 22 30), (0, .nameAndType 11 31), (0, u "()D"), (0, .methodref 22 33), (0, .nameAndType 15 31), (0, u "(DDDD)V"), (4, u "contains"), (0, u "(Lcom/example/evo_layout/evolayout/drawing/Point;)Z")] 3

def k2c0 : Code := { maxStack := 3, maxLocals := 9, code := prog_4_method_1_code, exceptionTable := #[], attributes := #[] }
def k2m0 : Method := { name := "<init>", desc := "(DDDD)V", sig := { parameters := [.double, .double, .double, .double], returnType := none }, accessFlags := 1, code := some k2c0 }
def k2c1 : Code := { maxStack := 6, maxLocals := 2, code := prog_4_method_7_code, exceptionTable := #[], attributes := #[] }
def k2m1 : Method := { name := "contains", desc := "(Lcom/example/evo_layout/evolayout/drawing/Point;)Z", sig := { parameters := [(.object "com/example/evo_layout/evolayout/drawing/Point")], returnType := some .boolean }, accessFlags := 0, code := some k2c1 }
/-- com/example/evo_layout/evolayout/drawing/Box -/
def k2 : Class := { plain "com/example/evo_layout/evolayout/drawing/Box" (some 0) with
  accessFlags := 33
  interfaces := #[]
  cf := some (fileOf pool2 8 #[] #[{ accessFlags := 1, nameIndex := 5, descriptorIndex := 34, attributes := #[] }, { accessFlags := 0, nameIndex := 39, descriptorIndex := 40, attributes := #[] }] 33 2 #[] #[{ accessFlags := 18, nameIndex := 11, descriptorIndex := 12, attributes := #[] }, { accessFlags := 18, nameIndex := 15, descriptorIndex := 12, attributes := #[] }, { accessFlags := 18, nameIndex := 18, descriptorIndex := 12, attributes := #[] }, { accessFlags := 18, nameIndex := 21, descriptorIndex := 12, attributes := #[] }])
  fields := #[{ name := "x", type := .double, accessFlags := 18, slot := 0, constantValue := 0 }, { name := "y", type := .double, accessFlags := 18, slot := 1, constantValue := 0 }, { name := "width", type := .double, accessFlags := 18, slot := 2, constantValue := 0 }, { name := "height", type := .double, accessFlags := 18, slot := 3, constantValue := 0 }]
  methods := #[k2m0, k2m1]
  instanceTypes := #[.double, .double, .double, .double]
  staticTypes := #[]
  resolved := Array.replicate 44 none
  statics := none }

def pool3 : Array CpInfo := pool [(1, .methodref 2 3), (0, .class_ 4), (0, .nameAndType 5 6), (0, u "java/lang/Object"), (0, u "<init>"), (0, u "()V"), (0, .fieldref 8 9), (0, .class_ 10), (0, .nameAndType 11 12), (0, u "com/example/evo_layout/evolayout/drawing/Point"), (0, u "x"), (0, u "D"), (0, .fieldref 8 14), (0, .nameAndType 15 12), (0, u "y"), (6, u "(DD)V"), (2, u "()D")] 4

def k3c0 : Code := { maxStack := 3, maxLocals := 5, code := prog_8_method_1_code, exceptionTable := #[], attributes := #[] }
def k3m0 : Method := { name := "<init>", desc := "(DD)V", sig := { parameters := [.double, .double], returnType := none }, accessFlags := 1, code := some k3c0 }
def k3c1 : Code := { maxStack := 2, maxLocals := 1, code := prog_8_method_2_code, exceptionTable := #[], attributes := #[] }
def k3m1 : Method := { name := "x", desc := "()D", sig := { parameters := [], returnType := some .double }, accessFlags := 1, code := some k3c1 }
def k3c2 : Code := { maxStack := 2, maxLocals := 1, code := prog_8_method_3_code, exceptionTable := #[], attributes := #[] }
def k3m2 : Method := { name := "y", desc := "()D", sig := { parameters := [], returnType := some .double }, accessFlags := 1, code := some k3c2 }
/-- com/example/evo_layout/evolayout/drawing/Point -/
def k3 : Class := { plain "com/example/evo_layout/evolayout/drawing/Point" (some 0) with
  accessFlags := 33
  interfaces := #[]
  cf := some (fileOf pool3 8 #[] #[{ accessFlags := 1, nameIndex := 5, descriptorIndex := 22, attributes := #[] }, { accessFlags := 1, nameIndex := 11, descriptorIndex := 25, attributes := #[] }, { accessFlags := 1, nameIndex := 15, descriptorIndex := 25, attributes := #[] }] 33 2 #[] #[{ accessFlags := 18, nameIndex := 11, descriptorIndex := 12, attributes := #[] }, { accessFlags := 18, nameIndex := 15, descriptorIndex := 12, attributes := #[] }])
  fields := #[{ name := "x", type := .double, accessFlags := 18, slot := 0, constantValue := 0 }, { name := "y", type := .double, accessFlags := 18, slot := 1, constantValue := 0 }]
  methods := #[k3m0, k3m1, k3m2]
  instanceTypes := #[.double, .double]
  staticTypes := #[]
  resolved := Array.replicate 30 none
  statics := none }

def pool4 : Array CpInfo := pool [(1, u "java/lang/Cloneable"), (0, .class_ 1), (0, u "java/lang/Object"), (0, .class_ 3)] 3

/-- java/lang/Cloneable -/
def k4 : Class := { plain "java/lang/Cloneable" (some 0) with
  accessFlags := 1537
  interfaces := #[]
  cf := some (fileOf pool4 2 #[] #[] 1537 4 #[] #[])
  fields := #[]
  methods := #[]
  instanceTypes := #[]
  staticTypes := #[]
  resolved := Array.replicate 8 none
  statics := none }

def pool5 : Array CpInfo := pool [(1, u "java/io/Serializable"), (0, .class_ 1), (0, u "java/lang/Object"), (0, .class_ 3)] 3

/-- java/io/Serializable -/
def k5 : Class := { plain "java/io/Serializable" (some 0) with
  accessFlags := 1537
  interfaces := #[]
  cf := some (fileOf pool5 2 #[] #[] 1537 4 #[] #[])
  fields := #[]
  methods := #[]
  instanceTypes := #[]
  staticTypes := #[]
  resolved := Array.replicate 8 none
  statics := none }

/-- the primitive byte -/
def k6 : Class := { plain "byte" none with kind := .primitive 'B', accessFlags := 0x411 }
/-- [B -/
def k7 : Class := { plain "[B" (some 0) with kind := .array 6 .byte, interfaces := #[4, 5], accessFlags := 1041 }

/-- the primitive int -/
def k8 : Class := { plain "int" none with kind := .primitive 'I', accessFlags := 0x411 }
/-- [I -/
def k9 : Class := { plain "[I" (some 0) with kind := .array 8 .int, interfaces := #[4, 5], accessFlags := 1041 }

def heap : Heap := #[]
def classes : Array Class := #[k0, k1, k2, k3, k4, k5, k6, k7, k8, k9]
def interned : List (Array UInt16 × Addr) := []
def slotsUsed : Nat := 0
def theMethod : MethodId := ⟨1, 1⟩
def args0 : Array Value := #[.int 5, .int 7, .int 5, .int 7, .int 5, .int 7]
def aboutOver (below : List Frame) : State where
  vm := { classes := classes, interned := interned.toArray }
  heap := heap
  slotsUsed := slotsUsed
  threads := #[{ frames := .invoking theMethod args0 :: below }]
def below0 : List Frame := [.native { method := ⟨0, 0⟩, args := #[] }]
def about1 : State := aboutOver below0
def p0 : Program := .bare "" "" ""
def e0 : Env := launch0.env 0 0 0
theorem w_frames : about1.frames = Frame.invoking theMethod args0 :: below0 := rfl
set_option maxRecDepth 65536 in
theorem w_args : argsFit about1.vm theMethod args0 = true := by decide +kernel
set_option maxRecDepth 65536 in
theorem w_heap : heapFits about1 = true := by decide +kernel
set_option maxRecDepth 65536 in
theorem w_runnable : about1.curStatus? = some .runnable := by decide +kernel
set_option maxRecDepth 65536 in
theorem w_alone : about1.alone = true := by decide +kernel
set_option maxRecDepth 65536 in
theorem w_named : about1.methodNamed? x = some theMethod := by decide +kernel
set_option maxRecDepth 65536 in
theorem w_hears : about1.hears theMethod below0 = true := by decide +kernel
set_option maxRecDepth 65536 in
theorem w_ripe : about1.ripe theMethod args0 below0 = true := by decide +kernel
theorem w_running : about1.status = .running := rfl
set_option maxRecDepth 65536 in
theorem w_room : about1.hasRoom e0.platform room_1 = true :=
  launch0.hasRoom_least _ room_1 (by decide +kernel) (by decide +kernel) (by decide +kernel) (by decide +kernel) (by decide +kernel) (by decide +kernel)
theorem allAtoms_all (ts : List Jvm.Cond) (a : Array Jvm.Value) (st : Jvm.State) : (allAtoms ts).before a st = ts.all (fun c => c.before a st) := by
  induction ts with
  | nil => rfl
  | cons c t ih =>
    show (Jvm.Cond.and c (allAtoms t)).before a st = _
    rw [Jvm.Cond.before_and, ih, List.all_cons]
def words1 : List Jvm.Cond := Jvm.Cond.code x code maxLocals ret :: tables_1
/-- a 'code' word, met by the world's own term for the bytes: nothing is compared byte by byte -/
theorem code_word {y : MethodName} {bytes : ByteArray} {mx : Nat} {rt : Option FieldType} {a : Array Value} {s : State} {m : MethodId} {meth : Method} {c : Code} (h1 : s.methodNamed? y = some m) (h2 : s.vm.method? m = some meth) (h3 : meth.code = some c) (h4 : c.code = bytes)
    (h5 : (c.maxLocals == mx && c.exceptionTable.isEmpty && decide (c.maxStack ≤ mostOperands) && decide (meth.sig.returnType = rt) && !meth.locks && decide (parseMethodDescriptor y.desc = some meth.sig)) = true) : (Jvm.Cond.code y bytes mx rt).before a s = true := by
  simp only [Bool.and_eq_true, beq_iff_eq, Bool.not_eq_true', decide_eq_true_eq] at h5
  obtain ⟨⟨⟨⟨⟨g1, g2⟩, g3⟩, g4⟩, g5⟩, g6⟩ := h5
  simp [Cond.before, Cond.holds, Cond.value, h1, h2, h3, h4, g1, g2, g3, g4, g5, g6]
def isCode : Jvm.Cond → Bool
  | .code _ _ _ _ => true
  | _ => false
theorem all_split {L : List Jvm.Cond} {P : Jvm.Cond → Bool} (h1 : L.all (fun c => isCode c || P c) = true) (h2 : ∀ c ∈ L.filter isCode, P c = true) : L.all P = true := by
  refine List.all_eq_true.mpr fun c hc => ?_
  have h := List.all_eq_true.mp h1 c hc
  rcases Bool.eq_false_or_eq_true (isCode c) with hi | hi
  · exact h2 c (List.mem_filter.mpr ⟨hc, hi⟩)
  · simpa [hi] using h
set_option maxRecDepth 65536 in
theorem w_c0 : (Jvm.Cond.code x code maxLocals ret).before args0 about1 = true := code_word (m := ⟨1, 1⟩) (meth := k1m1) (c := k1c1) (by decide +kernel) rfl rfl rfl (by decide +kernel)
set_option maxRecDepth 65536 in
theorem w_c1 : (Jvm.Cond.code ({ cls := "com/example/evo_layout/evolayout/drawing/Box", name := "<init>", desc := "(DDDD)V" } : Jvm.MethodName) prog_4_method_1_code (9 : Nat) (Option.none : Option Jvm.ClassFile.FieldType)).before args0 about1 = true := code_word (m := ⟨2, 0⟩) (meth := k2m0) (c := k2c0) (by decide +kernel) rfl rfl rfl (by decide +kernel)
set_option maxRecDepth 65536 in
theorem w_c2 : (Jvm.Cond.code ({ cls := "java/lang/Object", name := "<init>", desc := "()V" } : Jvm.MethodName) object_method_1_code (1 : Nat) (Option.none : Option Jvm.ClassFile.FieldType)).before args0 about1 = true := code_word (m := ⟨0, 0⟩) (meth := k0m0) (c := k0c0) (by decide +kernel) rfl rfl rfl (by decide +kernel)
set_option maxRecDepth 65536 in
theorem w_c3 : (Jvm.Cond.code ({ cls := "com/example/evo_layout/evolayout/drawing/Point", name := "<init>", desc := "(DD)V" } : Jvm.MethodName) prog_8_method_1_code (5 : Nat) (Option.none : Option Jvm.ClassFile.FieldType)).before args0 about1 = true := code_word (m := ⟨3, 0⟩) (meth := k3m0) (c := k3c0) (by decide +kernel) rfl rfl rfl (by decide +kernel)
set_option maxRecDepth 65536 in
theorem w_c4 : (Jvm.Cond.code ({ cls := "com/example/evo_layout/evolayout/drawing/Box", name := "contains", desc := "(Lcom/example/evo_layout/evolayout/drawing/Point;)Z" } : Jvm.MethodName) prog_4_method_7_code (2 : Nat) (Option.some Jvm.ClassFile.FieldType.boolean)).before args0 about1 = true := code_word (m := ⟨2, 1⟩) (meth := k2m1) (c := k2c1) (by decide +kernel) rfl rfl rfl (by decide +kernel)
set_option maxRecDepth 65536 in
theorem w_c5 : (Jvm.Cond.code ({ cls := "com/example/evo_layout/evolayout/drawing/Point", name := "x", desc := "()D" } : Jvm.MethodName) prog_8_method_2_code (1 : Nat) (Option.some Jvm.ClassFile.FieldType.double)).before args0 about1 = true := code_word (m := ⟨3, 1⟩) (meth := k3m1) (c := k3c1) (by decide +kernel) rfl rfl rfl (by decide +kernel)
set_option maxRecDepth 65536 in
theorem w_c6 : (Jvm.Cond.code ({ cls := "com/example/evo_layout/evolayout/drawing/Point", name := "y", desc := "()D" } : Jvm.MethodName) prog_8_method_3_code (1 : Nat) (Option.some Jvm.ClassFile.FieldType.double)).before args0 about1 = true := code_word (m := ⟨3, 2⟩) (meth := k3m2) (c := k3c2) (by decide +kernel) rfl rfl rfl (by decide +kernel)
def codes1 : List Jvm.Cond := [Jvm.Cond.code x code maxLocals ret, Jvm.Cond.code ({ cls := "com/example/evo_layout/evolayout/drawing/Box", name := "<init>", desc := "(DDDD)V" } : Jvm.MethodName) prog_4_method_1_code (9 : Nat) (Option.none : Option Jvm.ClassFile.FieldType), Jvm.Cond.code ({ cls := "java/lang/Object", name := "<init>", desc := "()V" } : Jvm.MethodName) object_method_1_code (1 : Nat) (Option.none : Option Jvm.ClassFile.FieldType), Jvm.Cond.code ({ cls := "com/example/evo_layout/evolayout/drawing/Point", name := "<init>", desc := "(DD)V" } : Jvm.MethodName) prog_8_method_1_code (5 : Nat) (Option.none : Option Jvm.ClassFile.FieldType), Jvm.Cond.code ({ cls := "com/example/evo_layout/evolayout/drawing/Box", name := "contains", desc := "(Lcom/example/evo_layout/evolayout/drawing/Point;)Z" } : Jvm.MethodName) prog_4_method_7_code (2 : Nat) (Option.some Jvm.ClassFile.FieldType.boolean), Jvm.Cond.code ({ cls := "com/example/evo_layout/evolayout/drawing/Point", name := "x", desc := "()D" } : Jvm.MethodName) prog_8_method_2_code (1 : Nat) (Option.some Jvm.ClassFile.FieldType.double), Jvm.Cond.code ({ cls := "com/example/evo_layout/evolayout/drawing/Point", name := "y", desc := "()D" } : Jvm.MethodName) prog_8_method_3_code (1 : Nat) (Option.some Jvm.ClassFile.FieldType.double)]
set_option maxRecDepth 65536 in
theorem codes_eq : words1.filter isCode = codes1 := rfl
theorem w_codes : ∀ c ∈ words1.filter isCode, c.before args0 about1 = true := by
  rw [codes_eq]
  intro c hc
  simp only [codes1, List.mem_cons, List.not_mem_nil, or_false] at hc
  rcases hc with rfl | rfl | rfl | rfl | rfl | rfl | rfl
  · exact w_c0
  · exact w_c1
  · exact w_c2
  · exact w_c3
  · exact w_c4
  · exact w_c5
  · exact w_c6
set_option maxRecDepth 65536 in
theorem w_t1 : (words1.take 24).all (fun c => isCode c || c.before args0 about1) = true := by decide +kernel
set_option maxRecDepth 65536 in
theorem w_t2 : (words1.drop 24).all (fun c => isCode c || c.before args0 about1) = true := by decide +kernel
theorem w_tables : (allAtoms (Jvm.Cond.code x code maxLocals ret :: tables_1)).before args0 about1 = true := by
  rw [allAtoms_all]
  show words1.all (fun c => c.before args0 about1) = true
  refine all_split ?_ w_codes
  rw [← List.take_append_drop 24 words1, List.all_append, w_t1, w_t2]
  rfl
set_option maxRecDepth 65536 in
theorem w_case : (Jvm.Cond.and given_1 narrow_1).before args0 about1 = true := by decide +kernel
theorem w_applies : (headSpec (Jvm.Cond.code x code maxLocals ret :: tables_1) room_1).applies x e0.platform about1 = true :=
  (Spec.applies_iff w_frames).mpr ⟨w_running, w_runnable, w_alone, w_named, w_hears, w_ripe, w_room, w_tables⟩
theorem atStart : AtStart classFile x code maxLocals ret World_1 tables_1 room_1 Calls_1 rest_1 Pre_1 launch0 p0 e0 about1 theMethod args0 below0 :=
  ⟨lists_1, trivial, launch0.admits_env _ _ _, launch0.least_env, fairChoices_fair.cas, fairChoices_fair.clock, w_frames, w_args, w_heap, w_applies, trivial, trivial, w_case⟩
end start1
theorem witness_1 : WitnessClaimed_1 := ⟨start1.p0, start1.e0, start1.about1, start1.theMethod, start1.args0, start1.below0, start1.atStart⟩
end Jvm.Pilot.@@N@@
