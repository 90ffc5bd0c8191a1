import JvmDerived
import JvmDerived.Pilot.@@N@@Statement
import JvmDerived.Pilot.@@N@@Code
set_option linter.unusedVariables false
set_option linter.unusedSimpArgs false
namespace Jvm.RoadKit
open Sem ClassFile Op Lib Jvm.Stand Jvm.Free Jvm.LawKit
section New
variable {p : Program} {l : Launch} {e : Env} {R : Room} {s : State} {m : MethodId} {args : Array Value} {below : List Frame} {meth : Method} {c : Code} {T : State} {locs : List Loc} {cells slots : Nat}
theorem retI (X : Stand p l e R s m args below meth c T locs cells slots) (hx : p.tables.exec = Jvm.exec) {pc : Nat} {Ls : Array Slot} {z : Int32} {rest : List Value} (hret : meth.sig.returnType = some .int) (hd : decode c.code pc = .ok (.ireturn, 1)) {fs : List Frame}
    (hl : ∀ (f : JFrame) (acts : List Action), f.method = m → f.locked = none → f.entered = [] → (doReturn e (T.setTop f) acts (some (.int z))).1 = T.setFrames fs) : Steps p.tables e below (T.setTop (mkF m pc Ls (.int z :: rest))) (T.setFrames fs) := by
  have hm' : T.vm.method? m = some meth := X.method'
  have hn : narrow .int (.int z) = .int z := rfl
  show Steps p.tables e below (T.setTop { method := m, pc := pc, locals := Ls, stack := _ :: rest, locked := none }) _
  jvm_step X.here [X.here.top, hx, hd, hm', hret, hn]
  first | (intro acts; rw [hl _ acts rfl rfl rfl]) | rw [hl _ _ rfl rfl rfl]
  exact Steps.refl _
/-- from here the run comes to an end of which Po says something -/
def Gl (p : Program) (e : Env) (below : List Frame) (Po : State → Outcome → Prop) (T : State) (g : JFrame) : Prop := ∃ s₂ o, Steps p.tables e below (T.setTop g) s₂ ∧ s₂.status = .running ∧ Ended s₂ below o ∧ Po s₂ o
def Pos (C S : Nat) (Q : Option Value → Heap → List Loc → Prop) (s : State) (U : State) (o : Outcome) : Prop := ∃ v L, o = .returned v ∧ Q v U.heap L ∧ FrameEnd s o U L C S
theorem Gl.by {Po : State → Outcome → Prop} {T' : State} {g g' : JFrame} (st : ∀ t, Steps p.tables e below (T'.setTop g') t → Steps p.tables e below (T.setTop g) t) (h : Gl p e below Po T' g') : Gl p e below Po T g := by
  obtain ⟨a, o, k, r⟩ := h
  exact ⟨a, o, st _ k, r⟩
theorem Gl.cast {Po : State → Outcome → Prop} {g g' : JFrame} (q : g = g') (h : Gl p e below Po T g') : Gl p e below Po T g := q ▸ h
theorem Gl.outN (X : Stand p l e R s m args below meth c T locs cells slots) (hx : p.tables.exec = Jvm.exec) (hk : meth.locks = false) {pc : Nat} {Ls : Array Slot} {z : Int32} {t : FieldType} {rest : List Value} (hret : meth.sig.returnType = some t) (ht : t = .boolean ∨ t = .byte ∨ t = .char ∨ t = .short)
    (hd : decode c.code pc = .ok (.ireturn, 1)) {C S : Nat} {Q : Option Value → Heap → List Loc → Prop} (hQ : Q (some (.int (nar t z))) T.heap locs) (hc : cells ≤ C) (hs : slots ≤ S) : Gl p e below (Pos C S Q s) T (mkF m pc Ls (.int z :: rest)) := by
  obtain ⟨fs, hr, hrun, hended, hW, hsame⟩ := X.leave (v := some (.int (nar t z))) (fun h => by rw [hret] at h; cases h) hk
  exact ⟨_, _, retN X hx hret ht hd hr, hrun, hended, _, _, rfl, hQ, ⟨_, rfl⟩, hW, hsame.mono hc hs⟩
theorem Gl.outI (X : Stand p l e R s m args below meth c T locs cells slots) (hx : p.tables.exec = Jvm.exec) (hk : meth.locks = false) {pc : Nat} {Ls : Array Slot} {z : Int32} {rest : List Value} (hret : meth.sig.returnType = some .int)
    (hd : decode c.code pc = .ok (.ireturn, 1)) {C S : Nat} {Q : Option Value → Heap → List Loc → Prop} (hQ : Q (some (.int z)) T.heap locs) (hc : cells ≤ C) (hs : slots ≤ S) : Gl p e below (Pos C S Q s) T (mkF m pc Ls (.int z :: rest)) := by
  obtain ⟨fs, hr, hrun, hended, hW, hsame⟩ := X.leave (v := some (.int z)) (fun h => by rw [hret] at h; cases h) hk
  exact ⟨_, _, retI X hx hret hd hr, hrun, hended, _, _, rfl, hQ, ⟨_, rfl⟩, hW, hsame.mono hc hs⟩
theorem Gl.outJ (X : Stand p l e R s m args below meth c T locs cells slots) (hx : p.tables.exec = Jvm.exec) (hk : meth.locks = false) {pc : Nat} {Ls : Array Slot} {z : Int64} {rest : List Value} (hret : meth.sig.returnType = some .long)
    (hd : decode c.code pc = .ok (.lreturn, 1)) {C S : Nat} {Q : Option Value → Heap → List Loc → Prop} (hQ : Q (some (.long z)) T.heap locs) (hc : cells ≤ C) (hs : slots ≤ S) : Gl p e below (Pos C S Q s) T (mkF m pc Ls (.long z :: rest)) := by
  obtain ⟨fs, hr, hrun, hended, hW, hsame⟩ := X.leave (v := some (.long z)) (fun h => by rw [hret] at h; cases h) hk
  exact ⟨_, _, retOut X hx hret rfl (Or.inr (Or.inl ⟨rfl, rfl, _, rfl⟩)) hd hr, hrun, hended, _, _, rfl, hQ, ⟨_, rfl⟩, hW, hsame.mono hc hs⟩
theorem Gl.outA (X : Stand p l e R s m args below meth c T locs cells slots) (hx : p.tables.exec = Jvm.exec) (hk : meth.locks = false) {pc : Nat} {Ls : Array Slot} {w : Value} {t : FieldType} {rest : List Value} (hret : meth.sig.returnType = some t) (ht : t.isReference = true) (hw : w.isRef = true)
    (hd : decode c.code pc = .ok (.areturn, 1)) {C S : Nat} {Q : Option Value → Heap → List Loc → Prop} (hQ : Q (some w) T.heap locs) (hc : cells ≤ C) (hs : slots ≤ S) : Gl p e below (Pos C S Q s) T (mkF m pc Ls (w :: rest)) := by
  obtain ⟨fs, hr, hrun, hended, hW, hsame⟩ := X.leave (v := some w) (fun h => by rw [hret] at h; cases h) hk
  exact ⟨_, _, retOut X hx hret (by rcases ref_cases hw with rfl | ⟨a, rfl⟩ <;> cases t <;> first | rfl | (cases ht; done)) (Or.inr (Or.inr (Or.inr (Or.inr ⟨rfl, ht, hw⟩)))) hd hr, hrun, hended, _, _, rfl, hQ, ⟨_, rfl⟩, hW, hsame.mono hc hs⟩
theorem Gl.outV (X : Stand p l e R s m args below meth c T locs cells slots) (hx : p.tables.exec = Jvm.exec) (hk : meth.locks = false) {pc : Nat} {Ls : Array Slot} (hret : meth.sig.returnType = none)
    (hd : decode c.code pc = .ok (.return_, 1)) {C S : Nat} {Q : Option Value → Heap → List Loc → Prop} (hQ : Q none T.heap locs) (hc : cells ≤ C) (hs : slots ≤ S) : Gl p e below (Pos C S Q s) T (mkF m pc Ls []) := by
  obtain ⟨fs, hr, hrun, hended, hW, hsame⟩ := X.leave (v := none) (fun _ => rfl) hk
  exact ⟨_, _, X.returnOut hx hret hd hr, hrun, hended, _, _, rfl, hQ, ⟨_, rfl⟩, hW, hsame.mono hc hs⟩
theorem eqI_v {args : Array Value} {first s : State} {o : Option Outcome} {idx : List Nat} {t : Term} {k : Int32} (h : (Cond.eq t (.int k)).value args first o s idx = some true) : t.eval args first o idx s = some (.int k) := by
  simp only [Cond.value, Term.eval] at h
  cases ht : t.eval args first o idx s with
  | none => simp [ht] at h
  | some x => cases x <;> simp [ht] at h ⊢; exact h
end New
end Jvm.RoadKit
namespace Jvm.Pilot.@@N@@
open Jvm Jvm.ClassFile Sem Op Lib Jvm.Free Jvm.Stand Jvm.LawKit Jvm.RoadKit Bundle Jvm.Pilot.@@N@@.Jvm.D
def Wd (Z : State) (w_OUTSIDE w_INSIDE : Addr) : Prop := Sta Z Z.heap "com/example/talaria/talaria/engine/TrustSide" "OUTSIDE" "Lcom/example/talaria/talaria/engine/TrustSide;" (.ref w_OUTSIDE) ∧ Exa Z Z.heap w_OUTSIDE "com/example/talaria/talaria/engine/TrustSide" ∧ Sta Z Z.heap "com/example/talaria/talaria/engine/TrustSide" "INSIDE" "Lcom/example/talaria/talaria/engine/TrustSide;" (.ref w_INSIDE) ∧ Exa Z Z.heap w_INSIDE "com/example/talaria/talaria/engine/TrustSide" ∧ Fld Z Z.heap w_OUTSIDE "java/lang/Enum" "ordinal" "I" (.int (1 : Int32)) ∧ Fld Z Z.heap w_INSIDE "java/lang/Enum" "ordinal" "I" (.int (0 : Int32))
theorem d1_0 : decode prog_13_method_4_code 0 = .ok (.iload_n 0, 1) := by decide +kernel
theorem d1_1 : decode prog_13_method_4_code 1 = .ok (.ifCond .eq 9, 3) := by decide +kernel
theorem d1_4 : decode prog_13_method_4_code 4 = .ok (.getstatic 3, 3) := by decide +kernel
theorem d1_7 : decode prog_13_method_4_code 7 = .ok (.goto 6, 3) := by decide +kernel
theorem d1_10 : decode prog_13_method_4_code 10 = .ok (.getstatic 7, 3) := by decide +kernel
theorem d1_13 : decode prog_13_method_4_code 13 = .ok (.areturn, 1) := by decide +kernel
theorem pn0 : plainName "com/example/talaria/talaria/engine/TrustSide" = true := by first | (simp [plainName, overriddenIn]; done) | decide +kernel
theorem ef1 (m : MethodId) (x0 : Int32) : entryFrame m #[(.int x0)] 1 = mkF m 0 #[.val (.int x0)] [] := by first | (simp [entryFrame, mkF, argsToLocals, Value.category]; done) | rfl
def fn1 (p0 : Int32) (w_OUTSIDE w_INSIDE : Addr) : Addr := if p0 = (0 : Int32) then w_OUTSIDE else w_INSIDE
def Q1 (p0 : Int32) (w_OUTSIDE w_INSIDE : Addr) (h0 : Heap) (n0 : Nat) (v : Option Value) (h : Heap) (L : List Loc) : Prop := v = some (.ref (fn1 p0 w_OUTSIDE w_INSIDE)) ∧ Fr n0 L ∧ h = h0
set_option maxRecDepth 65536 in
set_option maxHeartbeats 40000000 in
theorem rm1 (l : Launch) (Z : State) (a0 : Array Value) (hw : ∀ d ∈ tables_1, d.before a0 Z = true) (ws : List Jvm.Cond) (p0 : Int32) (w_OUTSIDE w_INSIDE : Addr) (h0 : Heap) (n0 : Nat) (O : Old Z n0 h0) (W : Wd Z w_OUTSIDE w_INSIDE) :
    MetFree l (⟨"com/example/talaria/talaria/engine/TrustSide", "of", "(Z)Lcom/example/talaria/talaria/engine/TrustSide;"⟩ : MethodName) (head1 (Jvm.Cond.code (⟨"com/example/talaria/talaria/engine/TrustSide", "of", "(Z)Lcom/example/talaria/talaria/engine/TrustSide;"⟩ : MethodName) prog_13_method_4_code 1 (some (.object "com/example/talaria/talaria/engine/TrustSide")) :: ws) ({ frames := 0, cells := 0, slots := 0, locals := 0 } : Room)) (fun a U => a = #[(.int p0)] ∧ Z.Warmed39 U.vm ∧ U.heap = h0) (fun _ _ _ _ _ => True) (fun _ U o U' => ∃ v L, o = .returned v ∧ Q1 p0 w_OUTSIDE w_INSIDE h0 n0 v U'.heap L ∧ FrameEnd U o U' L ({ frames := 0, cells := 0, slots := 0, locals := 0 } : Room).cells ({ frames := 0, cells := 0, slots := 0, locals := 0 } : Room).slots) := by
  refine MetFree.of_bodySF (plainFor_of_name pn0) hisR ?_
  intro p e s m args below meth c s₁ Bd hml0 hP hK
  obtain ⟨rfl, hZ, hh⟩ := hP
  have hx := Bd.exec
  have hby := Bd.bytes
  have hml : c.maxLocals = 1 := hml0
  have hown : s.vm.findClass "com/example/talaria/talaria/engine/TrustSide" = some m.cls := findClass_of_methodNamed Bd.named
  have hnm := (name_of_methodNamed Bd.named Bd.method).1
  have hk := Bd.notSynchronized
  have X0 : Stand p l e ({ frames := 0, cells := 0, slots := 0, locals := 0 } : Room) s m #[(.int p0)] below meth c s₁ [] 0 0 := Stand.of_body Bd
  have e0 : s₁.heap = h0 := by rw [← hh, Bd.state]; rfl
  have N0 := Fr.nil n0
  show Gl p e below (Pos 0 0 (Q1 p0 w_OUTSIDE w_INSIDE h0 n0) s) s₁ _
  refine Gl.cast (ef1 m p0) ?_
  refine Gl.by (g' := (mkF m 1 #[.val (.int p0)] [(.int p0)])) (fun _ k => XS.iloadN X0.here hx rfl (hb hby d1_0) rfl k) ?_
  by_cases hc1 : p0 = (0 : Int32)
  · refine Gl.by (g' := (mkF m 10 #[.val (.int p0)] [])) (fun _ k => XS.ifYes X0.here hx rfl (pc0 := 1) (pc' := 10) rfl (hb hby d1_1) rfl ((if0 _ _).trans (teq hc1).1) (by decide) (by decide) k) ?_
    obtain ⟨T2, X2, e2, st2⟩ := getS2 X0 hx hZ hown (host := "") (Or.inl (hw _ (List.mem_of_getElem? (i := 4) rfl))) Via.refl e0 (Sta.ext O.2 W.1) (g := (mkF m 10 #[.val (.int p0)] [])) rfl (hb hby d1_10)
    refine Gl.by (g' := (mkF m 13 #[.val (.int p0)] [(.ref w_OUTSIDE)])) st2 ?_
    exact Gl.outA X2 hx hk Bd.returns rfl rfl (hb hby d1_13) ⟨(congrArg (fun z => some (Value.ref z)) (show w_OUTSIDE = fn1 p0 w_OUTSIDE w_INSIDE by unfold fn1; rw [if_pos hc1]; try rfl)), N0, e2⟩ (by decide) (by decide)
  · refine Gl.by (g' := (mkF m 4 #[.val (.int p0)] [])) (fun _ k => XS.ifNo X0.here hx rfl (hb hby d1_1) rfl ((if0 _ _).trans (feq hc1).1) k) ?_
    obtain ⟨T3, X3, e3, st3⟩ := getS2 X0 hx hZ hown (host := "") (Or.inl (hw _ (List.mem_of_getElem? (i := 6) rfl))) Via.refl e0 (Sta.ext O.2 W.2.2.1) (g := (mkF m 4 #[.val (.int p0)] [])) rfl (hb hby d1_4)
    refine Gl.by (g' := (mkF m 7 #[.val (.int p0)] [(.ref w_INSIDE)])) st3 ?_
    refine Gl.by (g' := (mkF m 13 #[.val (.int p0)] [(.ref w_INSIDE)])) (fun _ k => XS.goto X3.here hx rfl (pc0 := 7) (pc' := 13) rfl (hb hby d1_7) (by decide) (by decide) k) ?_
    exact Gl.outA X3 hx hk Bd.returns rfl rfl (hb hby d1_13) ⟨(congrArg (fun z => some (Value.ref z)) (show w_INSIDE = fn1 p0 w_OUTSIDE w_INSIDE by unfold fn1; rw [if_neg hc1]; try rfl)), N0, e3⟩ (by decide) (by decide)
theorem pn1 : plainName "com/example/talaria/talaria/engine/TrustSideOfPinLaw" = true := by first | (simp [plainName, overriddenIn]; done) | decide +kernel
theorem pd0 : parseMethodDescriptor "(Z)Lcom/example/talaria/talaria/engine/TrustSide;" = some ⟨[.boolean], some (.object "com/example/talaria/talaria/engine/TrustSide")⟩ := by decide +kernel
theorem ef0 (m : MethodId) (x0 : Int32) : entryFrame m #[(.int x0)] maxLocals = mkF m 0 #[.val (.int x0), .unset, .unset, .unset, .unset, .unset] [] := by first | (simp [entryFrame, mkF, argsToLocals, Value.category, maxLocals]; done) | rfl
def fn0 (p0 : Int32) (w_OUTSIDE w_INSIDE : Addr) : Int32 := if (p0 &&& (1 : Int32)) = (0 : Int32) then if (fn1 (0 : Int32) w_OUTSIDE w_INSIDE) = w_INSIDE then if (fn1 (1 : Int32) w_OUTSIDE w_INSIDE) = w_OUTSIDE then (0 : Int32) else (0 : Int32) else if (fn1 (1 : Int32) w_OUTSIDE w_INSIDE) = w_OUTSIDE then (0 : Int32) else if (fn1 (0 : Int32) w_OUTSIDE w_INSIDE) = (fn1 (1 : Int32) w_OUTSIDE w_INSIDE) then (0 : Int32) else (1 : Int32) else if (fn1 (1 : Int32) w_OUTSIDE w_INSIDE) = w_INSIDE then if (fn1 (0 : Int32) w_OUTSIDE w_INSIDE) = w_OUTSIDE then if (fn1 (1 : Int32) w_OUTSIDE w_INSIDE) = (fn1 (0 : Int32) w_OUTSIDE w_INSIDE) then (0 : Int32) else (1 : Int32) else (0 : Int32) else if (fn1 (0 : Int32) w_OUTSIDE w_INSIDE) = w_OUTSIDE then (0 : Int32) else (0 : Int32)
def Q0 (p0 : Int32) (w_OUTSIDE w_INSIDE : Addr) (h0 : Heap) (n0 : Nat) (v : Option Value) (h : Heap) (L : List Loc) : Prop := v = some (.int (fn0 p0 w_OUTSIDE w_INSIDE)) ∧ Fr n0 L ∧ h = h0
set_option maxRecDepth 65536 in
set_option maxHeartbeats 40000000 in
theorem rm0 (l : Launch) (Z : State) (a0 : Array Value) (hw : ∀ d ∈ tables_1, d.before a0 Z = true) (ws : List Jvm.Cond) (p0 : Int32) (w_OUTSIDE w_INSIDE : Addr) (h0 : Heap) (n0 : Nat) (O : Old Z n0 h0) (W : Wd Z w_OUTSIDE w_INSIDE) :
    MetFree l x (head1 (Jvm.Cond.code x code maxLocals ret :: ws) room_1) (fun a U => a = #[(.int p0)] ∧ Z.Warmed39 U.vm ∧ U.heap = h0) (fun _ _ _ _ _ => True) (fun _ U o U' => ∃ v L, o = .returned v ∧ Q0 p0 w_OUTSIDE w_INSIDE h0 n0 v U'.heap L ∧ FrameEnd U o U' L 0 0) := by
  refine MetFree.of_bodySF (plainFor_of_name pn1) hisR ?_
  intro p e s m args below meth c s₁ Bd hml0 hP hK
  obtain ⟨rfl, hZ, hh⟩ := hP
  have hx := Bd.exec
  have hby := Bd.bytes
  have hml : c.maxLocals = 6 := hml0
  have hown : s.vm.findClass "com/example/talaria/talaria/engine/TrustSideOfPinLaw" = some m.cls := findClass_of_methodNamed Bd.named
  have hnm := (name_of_methodNamed Bd.named Bd.method).1
  have hk := Bd.notSynchronized
  have X0 : Stand p l e room_1 s m #[(.int p0)] below meth c s₁ [] 0 0 := Stand.of_body Bd
  have e0 : s₁.heap = h0 := by rw [← hh, Bd.state]; rfl
  have N0 := Fr.nil n0
  show Gl p e below (Pos 0 0 (Q0 p0 w_OUTSIDE w_INSIDE h0 n0) s) s₁ _
  refine Gl.cast (ef0 m p0) ?_
  refine Gl.by (g' := (mkF m 1 #[.val (.int p0), .unset, .unset, .unset, .unset, .unset] [(.int p0)])) (fun _ k => XS.iloadN X0.here hx rfl (hb hby at_0) rfl k) ?_
  refine Gl.by (g' := (mkF m 2 #[.val (.int p0), .unset, .unset, .unset, .unset, .unset] [(.int (1 : Int32)), (.int p0)])) (fun _ k => XS.iconst X0.here hx rfl (hb hby at_1) k) ?_
  refine Gl.by (g' := (mkF m 3 #[.val (.int p0), .unset, .unset, .unset, .unset, .unset] [(.int (p0 &&& (1 : Int32)))])) (fun _ k => XS.iand X0.here hx rfl (hb hby at_2) rfl k) ?_
  by_cases hc1 : (p0 &&& (1 : Int32)) = (0 : Int32)
  · refine Gl.by (g' := (mkF m 10 #[.val (.int p0), .unset, .unset, .unset, .unset, .unset] [])) (fun _ k => XS.ifYes X0.here hx rfl (pc0 := 3) (pc' := 10) rfl (hb hby at_3) rfl ((if0 _ _).trans (teq hc1).1) (by decide) (by decide) k) ?_
    refine Gl.by (g' := (mkF m 11 #[.val (.int p0), .unset, .unset, .unset, .unset, .unset] [(.int (0 : Int32))])) (fun _ k => XS.iconst X0.here hx rfl (hb hby at_10) k) ?_
    refine Gl.by (g' := (mkF m 12 #[.val (.int p0), .val (.int (0 : Int32)), .unset, .unset, .unset, .unset] [])) (fun _ k => XS.istoreN X0.here hx rfl (hb hby at_11) rfl (l' := #[.val (.int p0), .val (.int (0 : Int32)), .unset, .unset, .unset, .unset]) rfl k) ?_
    refine Gl.by (g' := (mkF m 13 #[.val (.int p0), .val (.int (0 : Int32)), .unset, .unset, .unset, .unset] [(.int (0 : Int32))])) (fun _ k => XS.iloadN X0.here hx rfl (hb hby at_12) rfl k) ?_
    obtain ⟨_, _, ⟨T2, L2, k2, n2⟩, -, X2, ⟨Lc2, hQ2, l2, y2, z2⟩, st2⟩ := Jvm.LawKit.callS X0 hx (y := (⟨"com/example/talaria/talaria/engine/TrustSide", "of", "(Z)Lcom/example/talaria/talaria/engine/TrustSide;"⟩ : MethodName)) hown (mvT hZ (hw _ (List.mem_of_getElem? (i := 0) rfl))) (mvT hZ (hw _ (List.mem_of_getElem? (i := 1) rfl))) (mvT hZ (hw _ (List.mem_of_getElem? (i := 2) rfl))) (mvT hZ (hw _ (List.mem_of_getElem? (i := 3) rfl))) (by decide) (backOf (W := 0) (rm1 l Z a0 hw [] (0 : Int32) w_OUTSIDE w_INSIDE h0 n0 O W) hZ (hw _ (List.mem_of_getElem? (i := 3) rfl)) (hw _ (List.mem_of_getElem? (i := 2) rfl)) (by decide) (by decide)) (g := (mkF m 13 #[.val (.int p0), .val (.int (0 : Int32)), .unset, .unset, .unset, .unset] [(.int (0 : Int32))])) rfl (by rw [hml]; rfl) (argsL := [(.int (0 : Int32))]) (rest := []) (lenOf pd0 rfl) rfl (by show 2 * 0 + _ ≤ _; exact Nat.le_of_eq rfl) (hb hby at_13) (fun _ _ => ⟨rfl, e0, (by decide : 0 + 0 ≤ _), (by decide : 0 + 0 ≤ _)⟩)
    dsimp only [Pt.U, Pt.locs, Pt.cells, Pt.slots] at X2 l2 y2 z2 st2 hQ2
    subst l2 y2 z2
    obtain ⟨rfl, N2q, e2⟩ := hQ2
    have N2 := Fr.app N0 N2q
    refine Gl.by (g' := (mkF m 16 #[.val (.int p0), .val (.int (0 : Int32)), .unset, .unset, .unset, .unset] [(.ref (fn1 (0 : Int32) w_OUTSIDE w_INSIDE))])) st2 ?_
    refine Gl.by (g' := (mkF m 17 #[.val (.int p0), .val (.int (0 : Int32)), .val (.ref (fn1 (0 : Int32) w_OUTSIDE w_INSIDE)), .unset, .unset, .unset] [])) (fun _ k => XS.astoreN X2.here hx rfl (hb hby at_16) rfl rfl (l' := #[.val (.int p0), .val (.int (0 : Int32)), .val (.ref (fn1 (0 : Int32) w_OUTSIDE w_INSIDE)), .unset, .unset, .unset]) rfl k) ?_
    refine Gl.by (g' := (mkF m 18 #[.val (.int p0), .val (.int (0 : Int32)), .val (.ref (fn1 (0 : Int32) w_OUTSIDE w_INSIDE)), .unset, .unset, .unset] [(.int (0 : Int32))])) (fun _ k => XS.iloadN X2.here hx rfl (hb hby at_17) rfl k) ?_
    refine Gl.by (g' := (mkF m 21 #[.val (.int p0), .val (.int (0 : Int32)), .val (.ref (fn1 (0 : Int32) w_OUTSIDE w_INSIDE)), .unset, .unset, .unset] [])) (fun _ k => XS.ifNo X2.here hx rfl (hb hby at_18) rfl ((if0 _ _).trans (teq (by decide : (0 : Int32) = (0 : Int32))).2) k) ?_
    refine Gl.by (g' := (mkF m 22 #[.val (.int p0), .val (.int (0 : Int32)), .val (.ref (fn1 (0 : Int32) w_OUTSIDE w_INSIDE)), .unset, .unset, .unset] [(.int (1 : Int32))])) (fun _ k => XS.iconst X2.here hx rfl (hb hby at_21) k) ?_
    refine Gl.by (g' := (mkF m 26 #[.val (.int p0), .val (.int (0 : Int32)), .val (.ref (fn1 (0 : Int32) w_OUTSIDE w_INSIDE)), .unset, .unset, .unset] [(.int (1 : Int32))])) (fun _ k => XS.goto X2.here hx rfl (pc0 := 22) (pc' := 26) rfl (hb hby at_22) (by decide) (by decide) k) ?_
    obtain ⟨_, _, ⟨T3, L3, k3, n3⟩, -, X3, ⟨Lc3, hQ3, l3, y3, z3⟩, st3⟩ := Jvm.LawKit.callS X2 hx (y := (⟨"com/example/talaria/talaria/engine/TrustSide", "of", "(Z)Lcom/example/talaria/talaria/engine/TrustSide;"⟩ : MethodName)) hown (mvT hZ (hw _ (List.mem_of_getElem? (i := 0) rfl))) (mvT hZ (hw _ (List.mem_of_getElem? (i := 1) rfl))) (mvT hZ (hw _ (List.mem_of_getElem? (i := 2) rfl))) (mvT hZ (hw _ (List.mem_of_getElem? (i := 3) rfl))) (by decide) (backOf (W := 0) (rm1 l Z a0 hw [] (1 : Int32) w_OUTSIDE w_INSIDE h0 n0 O W) hZ (hw _ (List.mem_of_getElem? (i := 3) rfl)) (hw _ (List.mem_of_getElem? (i := 2) rfl)) (by decide) (by decide)) (g := (mkF m 26 #[.val (.int p0), .val (.int (0 : Int32)), .val (.ref (fn1 (0 : Int32) w_OUTSIDE w_INSIDE)), .unset, .unset, .unset] [(.int (1 : Int32))])) rfl (by rw [hml]; rfl) (argsL := [(.int (1 : Int32))]) (rest := []) (lenOf pd0 rfl) rfl (by show 2 * 0 + _ ≤ _; exact Nat.le_of_eq rfl) (hb hby at_26) (fun _ _ => ⟨rfl, e2, (by decide : 0 + 0 ≤ _), (by decide : 0 + 0 ≤ _)⟩)
    dsimp only [Pt.U, Pt.locs, Pt.cells, Pt.slots] at X3 l3 y3 z3 st3 hQ3
    subst l3 y3 z3
    obtain ⟨rfl, N3q, e3⟩ := hQ3
    have N3 := Fr.app N2 N3q
    refine Gl.by (g' := (mkF m 29 #[.val (.int p0), .val (.int (0 : Int32)), .val (.ref (fn1 (0 : Int32) w_OUTSIDE w_INSIDE)), .unset, .unset, .unset] [(.ref (fn1 (1 : Int32) w_OUTSIDE w_INSIDE))])) st3 ?_
    refine Gl.by (g' := (mkF m 30 #[.val (.int p0), .val (.int (0 : Int32)), .val (.ref (fn1 (0 : Int32) w_OUTSIDE w_INSIDE)), .val (.ref (fn1 (1 : Int32) w_OUTSIDE w_INSIDE)), .unset, .unset] [])) (fun _ k => XS.astoreN X3.here hx rfl (hb hby at_29) rfl rfl (l' := #[.val (.int p0), .val (.int (0 : Int32)), .val (.ref (fn1 (0 : Int32) w_OUTSIDE w_INSIDE)), .val (.ref (fn1 (1 : Int32) w_OUTSIDE w_INSIDE)), .unset, .unset]) rfl k) ?_
    refine Gl.by (g' := (mkF m 31 #[.val (.int p0), .val (.int (0 : Int32)), .val (.ref (fn1 (0 : Int32) w_OUTSIDE w_INSIDE)), .val (.ref (fn1 (1 : Int32) w_OUTSIDE w_INSIDE)), .unset, .unset] [(.ref (fn1 (0 : Int32) w_OUTSIDE w_INSIDE))])) (fun _ k => XS.aloadN X3.here hx rfl (hb hby at_30) rfl rfl k) ?_
    refine Gl.by (g' := (mkF m 34 #[.val (.int p0), .val (.int (0 : Int32)), .val (.ref (fn1 (0 : Int32) w_OUTSIDE w_INSIDE)), .val (.ref (fn1 (1 : Int32) w_OUTSIDE w_INSIDE)), .unset, .unset] [])) (fun _ k => XS.ifnullNo X3.here hx rfl (hb hby at_31) rfl k) ?_
    refine Gl.by (g' := (mkF m 35 #[.val (.int p0), .val (.int (0 : Int32)), .val (.ref (fn1 (0 : Int32) w_OUTSIDE w_INSIDE)), .val (.ref (fn1 (1 : Int32) w_OUTSIDE w_INSIDE)), .unset, .unset] [(.ref (fn1 (1 : Int32) w_OUTSIDE w_INSIDE))])) (fun _ k => XS.aloadN X3.here hx rfl (hb hby at_34) rfl rfl k) ?_
    refine Gl.by (g' := (mkF m 40 #[.val (.int p0), .val (.int (0 : Int32)), .val (.ref (fn1 (0 : Int32) w_OUTSIDE w_INSIDE)), .val (.ref (fn1 (1 : Int32) w_OUTSIDE w_INSIDE)), .unset, .unset] [])) (fun _ k => XS.ifnonnullYes X3.here hx rfl (pc0 := 35) (pc' := 40) rfl (hb hby at_35) rfl (by decide) (by decide) k) ?_
    refine Gl.by (g' := (mkF m 41 #[.val (.int p0), .val (.int (0 : Int32)), .val (.ref (fn1 (0 : Int32) w_OUTSIDE w_INSIDE)), .val (.ref (fn1 (1 : Int32) w_OUTSIDE w_INSIDE)), .unset, .unset] [(.ref (fn1 (0 : Int32) w_OUTSIDE w_INSIDE))])) (fun _ k => XS.aloadN X3.here hx rfl (hb hby at_40) rfl rfl k) ?_
    obtain ⟨T4, X4, e4, st4⟩ := getS2 X3 hx hZ hown (host := "") (Or.inl (hw _ (List.mem_of_getElem? (i := 8) rfl))) Via.refl e3 (Sta.ext O.2 W.2.2.1) (g := (mkF m 41 #[.val (.int p0), .val (.int (0 : Int32)), .val (.ref (fn1 (0 : Int32) w_OUTSIDE w_INSIDE)), .val (.ref (fn1 (1 : Int32) w_OUTSIDE w_INSIDE)), .unset, .unset] [(.ref (fn1 (0 : Int32) w_OUTSIDE w_INSIDE))])) rfl (hb hby at_41)
    refine Gl.by (g' := (mkF m 44 #[.val (.int p0), .val (.int (0 : Int32)), .val (.ref (fn1 (0 : Int32) w_OUTSIDE w_INSIDE)), .val (.ref (fn1 (1 : Int32) w_OUTSIDE w_INSIDE)), .unset, .unset] [(.ref w_INSIDE), (.ref (fn1 (0 : Int32) w_OUTSIDE w_INSIDE))])) st4 ?_
    by_cases hc5 : (fn1 (0 : Int32) w_OUTSIDE w_INSIDE) = w_INSIDE
    · refine Gl.by (g' := (mkF m 47 #[.val (.int p0), .val (.int (0 : Int32)), .val (.ref (fn1 (0 : Int32) w_OUTSIDE w_INSIDE)), .val (.ref (fn1 (1 : Int32) w_OUTSIDE w_INSIDE)), .unset, .unset] [])) (fun _ k => Jvm.RoadKit.acmp (g := (mkF m 44 #[.val (.int p0), .val (.int (0 : Int32)), .val (.ref (fn1 (0 : Int32) w_OUTSIDE w_INSIDE)), .val (.ref (fn1 (1 : Int32) w_OUTSIDE w_INSIDE)), .unset, .unset] [(.ref w_INSIDE), (.ref (fn1 (0 : Int32) w_OUTSIDE w_INSIDE))])) X4 hx rfl rfl rfl (pc0 := 44) (pc' := 47) (same := true) rfl (hb hby at_44) rfl (decide_eq_true (congrArg Value.ref hc5)) (by decide) (by decide) k) ?_
      refine Gl.by (g' := (mkF m 48 #[.val (.int p0), .val (.int (0 : Int32)), .val (.ref (fn1 (0 : Int32) w_OUTSIDE w_INSIDE)), .val (.ref (fn1 (1 : Int32) w_OUTSIDE w_INSIDE)), .unset, .unset] [(.int (1 : Int32))])) (fun _ k => XS.iconst X4.here hx rfl (hb hby at_47) k) ?_
      refine Gl.by (g' := (mkF m 52 #[.val (.int p0), .val (.int (0 : Int32)), .val (.ref (fn1 (0 : Int32) w_OUTSIDE w_INSIDE)), .val (.ref (fn1 (1 : Int32) w_OUTSIDE w_INSIDE)), .unset, .unset] [(.int (1 : Int32))])) (fun _ k => XS.goto X4.here hx rfl (pc0 := 48) (pc' := 52) rfl (hb hby at_48) (by decide) (by decide) k) ?_
      refine Gl.by (g' := (mkF m 54 #[.val (.int p0), .val (.int (0 : Int32)), .val (.ref (fn1 (0 : Int32) w_OUTSIDE w_INSIDE)), .val (.ref (fn1 (1 : Int32) w_OUTSIDE w_INSIDE)), .val (.int (1 : Int32)), .unset] [])) (fun _ k => XS.istore X4.here hx rfl (hb hby at_52) rfl (l' := #[.val (.int p0), .val (.int (0 : Int32)), .val (.ref (fn1 (0 : Int32) w_OUTSIDE w_INSIDE)), .val (.ref (fn1 (1 : Int32) w_OUTSIDE w_INSIDE)), .val (.int (1 : Int32)), .unset]) rfl k) ?_
      refine Gl.by (g' := (mkF m 55 #[.val (.int p0), .val (.int (0 : Int32)), .val (.ref (fn1 (0 : Int32) w_OUTSIDE w_INSIDE)), .val (.ref (fn1 (1 : Int32) w_OUTSIDE w_INSIDE)), .val (.int (1 : Int32)), .unset] [(.ref (fn1 (1 : Int32) w_OUTSIDE w_INSIDE))])) (fun _ k => XS.aloadN X4.here hx rfl (hb hby at_54) rfl rfl k) ?_
      obtain ⟨T6, X6, e6, st6⟩ := getS2 X4 hx hZ hown (host := "") (Or.inl (hw _ (List.mem_of_getElem? (i := 9) rfl))) Via.refl e4 (Sta.ext O.2 W.1) (g := (mkF m 55 #[.val (.int p0), .val (.int (0 : Int32)), .val (.ref (fn1 (0 : Int32) w_OUTSIDE w_INSIDE)), .val (.ref (fn1 (1 : Int32) w_OUTSIDE w_INSIDE)), .val (.int (1 : Int32)), .unset] [(.ref (fn1 (1 : Int32) w_OUTSIDE w_INSIDE))])) rfl (hb hby at_55)
      refine Gl.by (g' := (mkF m 58 #[.val (.int p0), .val (.int (0 : Int32)), .val (.ref (fn1 (0 : Int32) w_OUTSIDE w_INSIDE)), .val (.ref (fn1 (1 : Int32) w_OUTSIDE w_INSIDE)), .val (.int (1 : Int32)), .unset] [(.ref w_OUTSIDE), (.ref (fn1 (1 : Int32) w_OUTSIDE w_INSIDE))])) st6 ?_
      by_cases hc7 : (fn1 (1 : Int32) w_OUTSIDE w_INSIDE) = w_OUTSIDE
      · refine Gl.by (g' := (mkF m 61 #[.val (.int p0), .val (.int (0 : Int32)), .val (.ref (fn1 (0 : Int32) w_OUTSIDE w_INSIDE)), .val (.ref (fn1 (1 : Int32) w_OUTSIDE w_INSIDE)), .val (.int (1 : Int32)), .unset] [])) (fun _ k => Jvm.RoadKit.acmp (g := (mkF m 58 #[.val (.int p0), .val (.int (0 : Int32)), .val (.ref (fn1 (0 : Int32) w_OUTSIDE w_INSIDE)), .val (.ref (fn1 (1 : Int32) w_OUTSIDE w_INSIDE)), .val (.int (1 : Int32)), .unset] [(.ref w_OUTSIDE), (.ref (fn1 (1 : Int32) w_OUTSIDE w_INSIDE))])) X6 hx rfl rfl rfl (pc0 := 58) (pc' := 61) (same := true) rfl (hb hby at_58) rfl (decide_eq_true (congrArg Value.ref hc7)) (by decide) (by decide) k) ?_
        refine Gl.by (g' := (mkF m 62 #[.val (.int p0), .val (.int (0 : Int32)), .val (.ref (fn1 (0 : Int32) w_OUTSIDE w_INSIDE)), .val (.ref (fn1 (1 : Int32) w_OUTSIDE w_INSIDE)), .val (.int (1 : Int32)), .unset] [(.int (1 : Int32))])) (fun _ k => XS.iconst X6.here hx rfl (hb hby at_61) k) ?_
        refine Gl.by (g' := (mkF m 66 #[.val (.int p0), .val (.int (0 : Int32)), .val (.ref (fn1 (0 : Int32) w_OUTSIDE w_INSIDE)), .val (.ref (fn1 (1 : Int32) w_OUTSIDE w_INSIDE)), .val (.int (1 : Int32)), .unset] [(.int (1 : Int32))])) (fun _ k => XS.goto X6.here hx rfl (pc0 := 62) (pc' := 66) rfl (hb hby at_62) (by decide) (by decide) k) ?_
        refine Gl.by (g' := (mkF m 68 #[.val (.int p0), .val (.int (0 : Int32)), .val (.ref (fn1 (0 : Int32) w_OUTSIDE w_INSIDE)), .val (.ref (fn1 (1 : Int32) w_OUTSIDE w_INSIDE)), .val (.int (1 : Int32)), .val (.int (1 : Int32))] [])) (fun _ k => XS.istore X6.here hx rfl (hb hby at_66) rfl (l' := #[.val (.int p0), .val (.int (0 : Int32)), .val (.ref (fn1 (0 : Int32) w_OUTSIDE w_INSIDE)), .val (.ref (fn1 (1 : Int32) w_OUTSIDE w_INSIDE)), .val (.int (1 : Int32)), .val (.int (1 : Int32))]) rfl k) ?_
        refine Gl.by (g' := (mkF m 70 #[.val (.int p0), .val (.int (0 : Int32)), .val (.ref (fn1 (0 : Int32) w_OUTSIDE w_INSIDE)), .val (.ref (fn1 (1 : Int32) w_OUTSIDE w_INSIDE)), .val (.int (1 : Int32)), .val (.int (1 : Int32))] [(.int (1 : Int32))])) (fun _ k => XS.iload X6.here hx rfl (hb hby at_68) rfl k) ?_
        refine Gl.by (g' := (mkF m 71 #[.val (.int p0), .val (.int (0 : Int32)), .val (.ref (fn1 (0 : Int32) w_OUTSIDE w_INSIDE)), .val (.ref (fn1 (1 : Int32) w_OUTSIDE w_INSIDE)), .val (.int (1 : Int32)), .val (.int (1 : Int32))] [(.int (0 : Int32)), (.int (1 : Int32))])) (fun _ k => XS.iloadN X6.here hx rfl (hb hby at_70) rfl k) ?_
        refine Gl.by (g' := (mkF m 89 #[.val (.int p0), .val (.int (0 : Int32)), .val (.ref (fn1 (0 : Int32) w_OUTSIDE w_INSIDE)), .val (.ref (fn1 (1 : Int32) w_OUTSIDE w_INSIDE)), .val (.int (1 : Int32)), .val (.int (1 : Int32))] [])) (fun _ k => XS.icmpYes X6.here hx rfl (pc0 := 71) (pc' := 89) rfl (hb hby at_71) rfl (feq (by decide : ¬ ((1 : Int32) = (0 : Int32)))).2 (by decide) (by decide) k) ?_
        refine Gl.by (g' := (mkF m 90 #[.val (.int p0), .val (.int (0 : Int32)), .val (.ref (fn1 (0 : Int32) w_OUTSIDE w_INSIDE)), .val (.ref (fn1 (1 : Int32) w_OUTSIDE w_INSIDE)), .val (.int (1 : Int32)), .val (.int (1 : Int32))] [(.int (0 : Int32))])) (fun _ k => XS.iconst X6.here hx rfl (hb hby at_89) k) ?_
        exact Gl.outN X6 hx hk (t := .boolean) Bd.returns (by simp) (hb hby at_90) ⟨(congrArg (fun z => some (Value.int z)) (show nar .boolean (0 : Int32) = fn0 p0 w_OUTSIDE w_INSIDE by unfold fn0; rw [if_pos hc1, if_pos hc5, if_pos hc7]; try rfl)), N3, e6⟩ (by decide) (by decide)
      · refine Gl.by (g' := (mkF m 65 #[.val (.int p0), .val (.int (0 : Int32)), .val (.ref (fn1 (0 : Int32) w_OUTSIDE w_INSIDE)), .val (.ref (fn1 (1 : Int32) w_OUTSIDE w_INSIDE)), .val (.int (1 : Int32)), .unset] [])) (fun _ k => Jvm.RoadKit.acmp (g := (mkF m 58 #[.val (.int p0), .val (.int (0 : Int32)), .val (.ref (fn1 (0 : Int32) w_OUTSIDE w_INSIDE)), .val (.ref (fn1 (1 : Int32) w_OUTSIDE w_INSIDE)), .val (.int (1 : Int32)), .unset] [(.ref w_OUTSIDE), (.ref (fn1 (1 : Int32) w_OUTSIDE w_INSIDE))])) X6 hx rfl rfl rfl (pc0 := 58) (pc' := 65) (same := false) rfl (hb hby at_58) rfl (decide_eq_false fun q => hc7 (Value.ref.inj q)) (by decide) (by decide) k) ?_
        refine Gl.by (g' := (mkF m 66 #[.val (.int p0), .val (.int (0 : Int32)), .val (.ref (fn1 (0 : Int32) w_OUTSIDE w_INSIDE)), .val (.ref (fn1 (1 : Int32) w_OUTSIDE w_INSIDE)), .val (.int (1 : Int32)), .unset] [(.int (0 : Int32))])) (fun _ k => XS.iconst X6.here hx rfl (hb hby at_65) k) ?_
        refine Gl.by (g' := (mkF m 68 #[.val (.int p0), .val (.int (0 : Int32)), .val (.ref (fn1 (0 : Int32) w_OUTSIDE w_INSIDE)), .val (.ref (fn1 (1 : Int32) w_OUTSIDE w_INSIDE)), .val (.int (1 : Int32)), .val (.int (0 : Int32))] [])) (fun _ k => XS.istore X6.here hx rfl (hb hby at_66) rfl (l' := #[.val (.int p0), .val (.int (0 : Int32)), .val (.ref (fn1 (0 : Int32) w_OUTSIDE w_INSIDE)), .val (.ref (fn1 (1 : Int32) w_OUTSIDE w_INSIDE)), .val (.int (1 : Int32)), .val (.int (0 : Int32))]) rfl k) ?_
        refine Gl.by (g' := (mkF m 70 #[.val (.int p0), .val (.int (0 : Int32)), .val (.ref (fn1 (0 : Int32) w_OUTSIDE w_INSIDE)), .val (.ref (fn1 (1 : Int32) w_OUTSIDE w_INSIDE)), .val (.int (1 : Int32)), .val (.int (0 : Int32))] [(.int (1 : Int32))])) (fun _ k => XS.iload X6.here hx rfl (hb hby at_68) rfl k) ?_
        refine Gl.by (g' := (mkF m 71 #[.val (.int p0), .val (.int (0 : Int32)), .val (.ref (fn1 (0 : Int32) w_OUTSIDE w_INSIDE)), .val (.ref (fn1 (1 : Int32) w_OUTSIDE w_INSIDE)), .val (.int (1 : Int32)), .val (.int (0 : Int32))] [(.int (0 : Int32)), (.int (1 : Int32))])) (fun _ k => XS.iloadN X6.here hx rfl (hb hby at_70) rfl k) ?_
        refine Gl.by (g' := (mkF m 89 #[.val (.int p0), .val (.int (0 : Int32)), .val (.ref (fn1 (0 : Int32) w_OUTSIDE w_INSIDE)), .val (.ref (fn1 (1 : Int32) w_OUTSIDE w_INSIDE)), .val (.int (1 : Int32)), .val (.int (0 : Int32))] [])) (fun _ k => XS.icmpYes X6.here hx rfl (pc0 := 71) (pc' := 89) rfl (hb hby at_71) rfl (feq (by decide : ¬ ((1 : Int32) = (0 : Int32)))).2 (by decide) (by decide) k) ?_
        refine Gl.by (g' := (mkF m 90 #[.val (.int p0), .val (.int (0 : Int32)), .val (.ref (fn1 (0 : Int32) w_OUTSIDE w_INSIDE)), .val (.ref (fn1 (1 : Int32) w_OUTSIDE w_INSIDE)), .val (.int (1 : Int32)), .val (.int (0 : Int32))] [(.int (0 : Int32))])) (fun _ k => XS.iconst X6.here hx rfl (hb hby at_89) k) ?_
        exact Gl.outN X6 hx hk (t := .boolean) Bd.returns (by simp) (hb hby at_90) ⟨(congrArg (fun z => some (Value.int z)) (show nar .boolean (0 : Int32) = fn0 p0 w_OUTSIDE w_INSIDE by unfold fn0; rw [if_pos hc1, if_pos hc5, if_neg hc7]; try rfl)), N3, e6⟩ (by decide) (by decide)
    · refine Gl.by (g' := (mkF m 51 #[.val (.int p0), .val (.int (0 : Int32)), .val (.ref (fn1 (0 : Int32) w_OUTSIDE w_INSIDE)), .val (.ref (fn1 (1 : Int32) w_OUTSIDE w_INSIDE)), .unset, .unset] [])) (fun _ k => Jvm.RoadKit.acmp (g := (mkF m 44 #[.val (.int p0), .val (.int (0 : Int32)), .val (.ref (fn1 (0 : Int32) w_OUTSIDE w_INSIDE)), .val (.ref (fn1 (1 : Int32) w_OUTSIDE w_INSIDE)), .unset, .unset] [(.ref w_INSIDE), (.ref (fn1 (0 : Int32) w_OUTSIDE w_INSIDE))])) X4 hx rfl rfl rfl (pc0 := 44) (pc' := 51) (same := false) rfl (hb hby at_44) rfl (decide_eq_false fun q => hc5 (Value.ref.inj q)) (by decide) (by decide) k) ?_
      refine Gl.by (g' := (mkF m 52 #[.val (.int p0), .val (.int (0 : Int32)), .val (.ref (fn1 (0 : Int32) w_OUTSIDE w_INSIDE)), .val (.ref (fn1 (1 : Int32) w_OUTSIDE w_INSIDE)), .unset, .unset] [(.int (0 : Int32))])) (fun _ k => XS.iconst X4.here hx rfl (hb hby at_51) k) ?_
      refine Gl.by (g' := (mkF m 54 #[.val (.int p0), .val (.int (0 : Int32)), .val (.ref (fn1 (0 : Int32) w_OUTSIDE w_INSIDE)), .val (.ref (fn1 (1 : Int32) w_OUTSIDE w_INSIDE)), .val (.int (0 : Int32)), .unset] [])) (fun _ k => XS.istore X4.here hx rfl (hb hby at_52) rfl (l' := #[.val (.int p0), .val (.int (0 : Int32)), .val (.ref (fn1 (0 : Int32) w_OUTSIDE w_INSIDE)), .val (.ref (fn1 (1 : Int32) w_OUTSIDE w_INSIDE)), .val (.int (0 : Int32)), .unset]) rfl k) ?_
      refine Gl.by (g' := (mkF m 55 #[.val (.int p0), .val (.int (0 : Int32)), .val (.ref (fn1 (0 : Int32) w_OUTSIDE w_INSIDE)), .val (.ref (fn1 (1 : Int32) w_OUTSIDE w_INSIDE)), .val (.int (0 : Int32)), .unset] [(.ref (fn1 (1 : Int32) w_OUTSIDE w_INSIDE))])) (fun _ k => XS.aloadN X4.here hx rfl (hb hby at_54) rfl rfl k) ?_
      obtain ⟨T8, X8, e8, st8⟩ := getS2 X4 hx hZ hown (host := "") (Or.inl (hw _ (List.mem_of_getElem? (i := 9) rfl))) Via.refl e4 (Sta.ext O.2 W.1) (g := (mkF m 55 #[.val (.int p0), .val (.int (0 : Int32)), .val (.ref (fn1 (0 : Int32) w_OUTSIDE w_INSIDE)), .val (.ref (fn1 (1 : Int32) w_OUTSIDE w_INSIDE)), .val (.int (0 : Int32)), .unset] [(.ref (fn1 (1 : Int32) w_OUTSIDE w_INSIDE))])) rfl (hb hby at_55)
      refine Gl.by (g' := (mkF m 58 #[.val (.int p0), .val (.int (0 : Int32)), .val (.ref (fn1 (0 : Int32) w_OUTSIDE w_INSIDE)), .val (.ref (fn1 (1 : Int32) w_OUTSIDE w_INSIDE)), .val (.int (0 : Int32)), .unset] [(.ref w_OUTSIDE), (.ref (fn1 (1 : Int32) w_OUTSIDE w_INSIDE))])) st8 ?_
      by_cases hc9 : (fn1 (1 : Int32) w_OUTSIDE w_INSIDE) = w_OUTSIDE
      · refine Gl.by (g' := (mkF m 61 #[.val (.int p0), .val (.int (0 : Int32)), .val (.ref (fn1 (0 : Int32) w_OUTSIDE w_INSIDE)), .val (.ref (fn1 (1 : Int32) w_OUTSIDE w_INSIDE)), .val (.int (0 : Int32)), .unset] [])) (fun _ k => Jvm.RoadKit.acmp (g := (mkF m 58 #[.val (.int p0), .val (.int (0 : Int32)), .val (.ref (fn1 (0 : Int32) w_OUTSIDE w_INSIDE)), .val (.ref (fn1 (1 : Int32) w_OUTSIDE w_INSIDE)), .val (.int (0 : Int32)), .unset] [(.ref w_OUTSIDE), (.ref (fn1 (1 : Int32) w_OUTSIDE w_INSIDE))])) X8 hx rfl rfl rfl (pc0 := 58) (pc' := 61) (same := true) rfl (hb hby at_58) rfl (decide_eq_true (congrArg Value.ref hc9)) (by decide) (by decide) k) ?_
        refine Gl.by (g' := (mkF m 62 #[.val (.int p0), .val (.int (0 : Int32)), .val (.ref (fn1 (0 : Int32) w_OUTSIDE w_INSIDE)), .val (.ref (fn1 (1 : Int32) w_OUTSIDE w_INSIDE)), .val (.int (0 : Int32)), .unset] [(.int (1 : Int32))])) (fun _ k => XS.iconst X8.here hx rfl (hb hby at_61) k) ?_
        refine Gl.by (g' := (mkF m 66 #[.val (.int p0), .val (.int (0 : Int32)), .val (.ref (fn1 (0 : Int32) w_OUTSIDE w_INSIDE)), .val (.ref (fn1 (1 : Int32) w_OUTSIDE w_INSIDE)), .val (.int (0 : Int32)), .unset] [(.int (1 : Int32))])) (fun _ k => XS.goto X8.here hx rfl (pc0 := 62) (pc' := 66) rfl (hb hby at_62) (by decide) (by decide) k) ?_
        refine Gl.by (g' := (mkF m 68 #[.val (.int p0), .val (.int (0 : Int32)), .val (.ref (fn1 (0 : Int32) w_OUTSIDE w_INSIDE)), .val (.ref (fn1 (1 : Int32) w_OUTSIDE w_INSIDE)), .val (.int (0 : Int32)), .val (.int (1 : Int32))] [])) (fun _ k => XS.istore X8.here hx rfl (hb hby at_66) rfl (l' := #[.val (.int p0), .val (.int (0 : Int32)), .val (.ref (fn1 (0 : Int32) w_OUTSIDE w_INSIDE)), .val (.ref (fn1 (1 : Int32) w_OUTSIDE w_INSIDE)), .val (.int (0 : Int32)), .val (.int (1 : Int32))]) rfl k) ?_
        refine Gl.by (g' := (mkF m 70 #[.val (.int p0), .val (.int (0 : Int32)), .val (.ref (fn1 (0 : Int32) w_OUTSIDE w_INSIDE)), .val (.ref (fn1 (1 : Int32) w_OUTSIDE w_INSIDE)), .val (.int (0 : Int32)), .val (.int (1 : Int32))] [(.int (0 : Int32))])) (fun _ k => XS.iload X8.here hx rfl (hb hby at_68) rfl k) ?_
        refine Gl.by (g' := (mkF m 71 #[.val (.int p0), .val (.int (0 : Int32)), .val (.ref (fn1 (0 : Int32) w_OUTSIDE w_INSIDE)), .val (.ref (fn1 (1 : Int32) w_OUTSIDE w_INSIDE)), .val (.int (0 : Int32)), .val (.int (1 : Int32))] [(.int (0 : Int32)), (.int (0 : Int32))])) (fun _ k => XS.iloadN X8.here hx rfl (hb hby at_70) rfl k) ?_
        refine Gl.by (g' := (mkF m 74 #[.val (.int p0), .val (.int (0 : Int32)), .val (.ref (fn1 (0 : Int32) w_OUTSIDE w_INSIDE)), .val (.ref (fn1 (1 : Int32) w_OUTSIDE w_INSIDE)), .val (.int (0 : Int32)), .val (.int (1 : Int32))] [])) (fun _ k => XS.icmpNo X8.here hx rfl (hb hby at_71) rfl (teq (by decide : (0 : Int32) = (0 : Int32))).2 k) ?_
        refine Gl.by (g' := (mkF m 76 #[.val (.int p0), .val (.int (0 : Int32)), .val (.ref (fn1 (0 : Int32) w_OUTSIDE w_INSIDE)), .val (.ref (fn1 (1 : Int32) w_OUTSIDE w_INSIDE)), .val (.int (0 : Int32)), .val (.int (1 : Int32))] [(.int (1 : Int32))])) (fun _ k => XS.iload X8.here hx rfl (hb hby at_74) rfl k) ?_
        refine Gl.by (g' := (mkF m 77 #[.val (.int p0), .val (.int (0 : Int32)), .val (.ref (fn1 (0 : Int32) w_OUTSIDE w_INSIDE)), .val (.ref (fn1 (1 : Int32) w_OUTSIDE w_INSIDE)), .val (.int (0 : Int32)), .val (.int (1 : Int32))] [(.int (0 : Int32)), (.int (1 : Int32))])) (fun _ k => XS.iloadN X8.here hx rfl (hb hby at_76) rfl k) ?_
        refine Gl.by (g' := (mkF m 89 #[.val (.int p0), .val (.int (0 : Int32)), .val (.ref (fn1 (0 : Int32) w_OUTSIDE w_INSIDE)), .val (.ref (fn1 (1 : Int32) w_OUTSIDE w_INSIDE)), .val (.int (0 : Int32)), .val (.int (1 : Int32))] [])) (fun _ k => XS.icmpYes X8.here hx rfl (pc0 := 77) (pc' := 89) rfl (hb hby at_77) rfl (feq (by decide : ¬ ((1 : Int32) = (0 : Int32)))).2 (by decide) (by decide) k) ?_
        refine Gl.by (g' := (mkF m 90 #[.val (.int p0), .val (.int (0 : Int32)), .val (.ref (fn1 (0 : Int32) w_OUTSIDE w_INSIDE)), .val (.ref (fn1 (1 : Int32) w_OUTSIDE w_INSIDE)), .val (.int (0 : Int32)), .val (.int (1 : Int32))] [(.int (0 : Int32))])) (fun _ k => XS.iconst X8.here hx rfl (hb hby at_89) k) ?_
        exact Gl.outN X8 hx hk (t := .boolean) Bd.returns (by simp) (hb hby at_90) ⟨(congrArg (fun z => some (Value.int z)) (show nar .boolean (0 : Int32) = fn0 p0 w_OUTSIDE w_INSIDE by unfold fn0; rw [if_pos hc1, if_neg hc5, if_pos hc9]; try rfl)), N3, e8⟩ (by decide) (by decide)
      · refine Gl.by (g' := (mkF m 65 #[.val (.int p0), .val (.int (0 : Int32)), .val (.ref (fn1 (0 : Int32) w_OUTSIDE w_INSIDE)), .val (.ref (fn1 (1 : Int32) w_OUTSIDE w_INSIDE)), .val (.int (0 : Int32)), .unset] [])) (fun _ k => Jvm.RoadKit.acmp (g := (mkF m 58 #[.val (.int p0), .val (.int (0 : Int32)), .val (.ref (fn1 (0 : Int32) w_OUTSIDE w_INSIDE)), .val (.ref (fn1 (1 : Int32) w_OUTSIDE w_INSIDE)), .val (.int (0 : Int32)), .unset] [(.ref w_OUTSIDE), (.ref (fn1 (1 : Int32) w_OUTSIDE w_INSIDE))])) X8 hx rfl rfl rfl (pc0 := 58) (pc' := 65) (same := false) rfl (hb hby at_58) rfl (decide_eq_false fun q => hc9 (Value.ref.inj q)) (by decide) (by decide) k) ?_
        refine Gl.by (g' := (mkF m 66 #[.val (.int p0), .val (.int (0 : Int32)), .val (.ref (fn1 (0 : Int32) w_OUTSIDE w_INSIDE)), .val (.ref (fn1 (1 : Int32) w_OUTSIDE w_INSIDE)), .val (.int (0 : Int32)), .unset] [(.int (0 : Int32))])) (fun _ k => XS.iconst X8.here hx rfl (hb hby at_65) k) ?_
        refine Gl.by (g' := (mkF m 68 #[.val (.int p0), .val (.int (0 : Int32)), .val (.ref (fn1 (0 : Int32) w_OUTSIDE w_INSIDE)), .val (.ref (fn1 (1 : Int32) w_OUTSIDE w_INSIDE)), .val (.int (0 : Int32)), .val (.int (0 : Int32))] [])) (fun _ k => XS.istore X8.here hx rfl (hb hby at_66) rfl (l' := #[.val (.int p0), .val (.int (0 : Int32)), .val (.ref (fn1 (0 : Int32) w_OUTSIDE w_INSIDE)), .val (.ref (fn1 (1 : Int32) w_OUTSIDE w_INSIDE)), .val (.int (0 : Int32)), .val (.int (0 : Int32))]) rfl k) ?_
        refine Gl.by (g' := (mkF m 70 #[.val (.int p0), .val (.int (0 : Int32)), .val (.ref (fn1 (0 : Int32) w_OUTSIDE w_INSIDE)), .val (.ref (fn1 (1 : Int32) w_OUTSIDE w_INSIDE)), .val (.int (0 : Int32)), .val (.int (0 : Int32))] [(.int (0 : Int32))])) (fun _ k => XS.iload X8.here hx rfl (hb hby at_68) rfl k) ?_
        refine Gl.by (g' := (mkF m 71 #[.val (.int p0), .val (.int (0 : Int32)), .val (.ref (fn1 (0 : Int32) w_OUTSIDE w_INSIDE)), .val (.ref (fn1 (1 : Int32) w_OUTSIDE w_INSIDE)), .val (.int (0 : Int32)), .val (.int (0 : Int32))] [(.int (0 : Int32)), (.int (0 : Int32))])) (fun _ k => XS.iloadN X8.here hx rfl (hb hby at_70) rfl k) ?_
        refine Gl.by (g' := (mkF m 74 #[.val (.int p0), .val (.int (0 : Int32)), .val (.ref (fn1 (0 : Int32) w_OUTSIDE w_INSIDE)), .val (.ref (fn1 (1 : Int32) w_OUTSIDE w_INSIDE)), .val (.int (0 : Int32)), .val (.int (0 : Int32))] [])) (fun _ k => XS.icmpNo X8.here hx rfl (hb hby at_71) rfl (teq (by decide : (0 : Int32) = (0 : Int32))).2 k) ?_
        refine Gl.by (g' := (mkF m 76 #[.val (.int p0), .val (.int (0 : Int32)), .val (.ref (fn1 (0 : Int32) w_OUTSIDE w_INSIDE)), .val (.ref (fn1 (1 : Int32) w_OUTSIDE w_INSIDE)), .val (.int (0 : Int32)), .val (.int (0 : Int32))] [(.int (0 : Int32))])) (fun _ k => XS.iload X8.here hx rfl (hb hby at_74) rfl k) ?_
        refine Gl.by (g' := (mkF m 77 #[.val (.int p0), .val (.int (0 : Int32)), .val (.ref (fn1 (0 : Int32) w_OUTSIDE w_INSIDE)), .val (.ref (fn1 (1 : Int32) w_OUTSIDE w_INSIDE)), .val (.int (0 : Int32)), .val (.int (0 : Int32))] [(.int (0 : Int32)), (.int (0 : Int32))])) (fun _ k => XS.iloadN X8.here hx rfl (hb hby at_76) rfl k) ?_
        refine Gl.by (g' := (mkF m 80 #[.val (.int p0), .val (.int (0 : Int32)), .val (.ref (fn1 (0 : Int32) w_OUTSIDE w_INSIDE)), .val (.ref (fn1 (1 : Int32) w_OUTSIDE w_INSIDE)), .val (.int (0 : Int32)), .val (.int (0 : Int32))] [])) (fun _ k => XS.icmpNo X8.here hx rfl (hb hby at_77) rfl (teq (by decide : (0 : Int32) = (0 : Int32))).2 k) ?_
        refine Gl.by (g' := (mkF m 81 #[.val (.int p0), .val (.int (0 : Int32)), .val (.ref (fn1 (0 : Int32) w_OUTSIDE w_INSIDE)), .val (.ref (fn1 (1 : Int32) w_OUTSIDE w_INSIDE)), .val (.int (0 : Int32)), .val (.int (0 : Int32))] [(.ref (fn1 (0 : Int32) w_OUTSIDE w_INSIDE))])) (fun _ k => XS.aloadN X8.here hx rfl (hb hby at_80) rfl rfl k) ?_
        refine Gl.by (g' := (mkF m 82 #[.val (.int p0), .val (.int (0 : Int32)), .val (.ref (fn1 (0 : Int32) w_OUTSIDE w_INSIDE)), .val (.ref (fn1 (1 : Int32) w_OUTSIDE w_INSIDE)), .val (.int (0 : Int32)), .val (.int (0 : Int32))] [(.ref (fn1 (1 : Int32) w_OUTSIDE w_INSIDE)), (.ref (fn1 (0 : Int32) w_OUTSIDE w_INSIDE))])) (fun _ k => XS.aloadN X8.here hx rfl (hb hby at_81) rfl rfl k) ?_
        by_cases hc10 : (fn1 (0 : Int32) w_OUTSIDE w_INSIDE) = (fn1 (1 : Int32) w_OUTSIDE w_INSIDE)
        · refine Gl.by (g' := (mkF m 89 #[.val (.int p0), .val (.int (0 : Int32)), .val (.ref (fn1 (0 : Int32) w_OUTSIDE w_INSIDE)), .val (.ref (fn1 (1 : Int32) w_OUTSIDE w_INSIDE)), .val (.int (0 : Int32)), .val (.int (0 : Int32))] [])) (fun _ k => Jvm.RoadKit.acmp (g := (mkF m 82 #[.val (.int p0), .val (.int (0 : Int32)), .val (.ref (fn1 (0 : Int32) w_OUTSIDE w_INSIDE)), .val (.ref (fn1 (1 : Int32) w_OUTSIDE w_INSIDE)), .val (.int (0 : Int32)), .val (.int (0 : Int32))] [(.ref (fn1 (1 : Int32) w_OUTSIDE w_INSIDE)), (.ref (fn1 (0 : Int32) w_OUTSIDE w_INSIDE))])) X8 hx rfl rfl rfl (pc0 := 82) (pc' := 89) (same := true) rfl (hb hby at_82) rfl (decide_eq_true (congrArg Value.ref hc10)) (by decide) (by decide) k) ?_
          refine Gl.by (g' := (mkF m 90 #[.val (.int p0), .val (.int (0 : Int32)), .val (.ref (fn1 (0 : Int32) w_OUTSIDE w_INSIDE)), .val (.ref (fn1 (1 : Int32) w_OUTSIDE w_INSIDE)), .val (.int (0 : Int32)), .val (.int (0 : Int32))] [(.int (0 : Int32))])) (fun _ k => XS.iconst X8.here hx rfl (hb hby at_89) k) ?_
          exact Gl.outN X8 hx hk (t := .boolean) Bd.returns (by simp) (hb hby at_90) ⟨(congrArg (fun z => some (Value.int z)) (show nar .boolean (0 : Int32) = fn0 p0 w_OUTSIDE w_INSIDE by unfold fn0; rw [if_pos hc1, if_neg hc5, if_neg hc9, if_pos hc10]; try rfl)), N3, e8⟩ (by decide) (by decide)
        · refine Gl.by (g' := (mkF m 85 #[.val (.int p0), .val (.int (0 : Int32)), .val (.ref (fn1 (0 : Int32) w_OUTSIDE w_INSIDE)), .val (.ref (fn1 (1 : Int32) w_OUTSIDE w_INSIDE)), .val (.int (0 : Int32)), .val (.int (0 : Int32))] [])) (fun _ k => Jvm.RoadKit.acmp (g := (mkF m 82 #[.val (.int p0), .val (.int (0 : Int32)), .val (.ref (fn1 (0 : Int32) w_OUTSIDE w_INSIDE)), .val (.ref (fn1 (1 : Int32) w_OUTSIDE w_INSIDE)), .val (.int (0 : Int32)), .val (.int (0 : Int32))] [(.ref (fn1 (1 : Int32) w_OUTSIDE w_INSIDE)), (.ref (fn1 (0 : Int32) w_OUTSIDE w_INSIDE))])) X8 hx rfl rfl rfl (pc0 := 82) (pc' := 85) (same := false) rfl (hb hby at_82) rfl (decide_eq_false fun q => hc10 (Value.ref.inj q)) (by decide) (by decide) k) ?_
          refine Gl.by (g' := (mkF m 86 #[.val (.int p0), .val (.int (0 : Int32)), .val (.ref (fn1 (0 : Int32) w_OUTSIDE w_INSIDE)), .val (.ref (fn1 (1 : Int32) w_OUTSIDE w_INSIDE)), .val (.int (0 : Int32)), .val (.int (0 : Int32))] [(.int (1 : Int32))])) (fun _ k => XS.iconst X8.here hx rfl (hb hby at_85) k) ?_
          refine Gl.by (g' := (mkF m 90 #[.val (.int p0), .val (.int (0 : Int32)), .val (.ref (fn1 (0 : Int32) w_OUTSIDE w_INSIDE)), .val (.ref (fn1 (1 : Int32) w_OUTSIDE w_INSIDE)), .val (.int (0 : Int32)), .val (.int (0 : Int32))] [(.int (1 : Int32))])) (fun _ k => XS.goto X8.here hx rfl (pc0 := 86) (pc' := 90) rfl (hb hby at_86) (by decide) (by decide) k) ?_
          exact Gl.outN X8 hx hk (t := .boolean) Bd.returns (by simp) (hb hby at_90) ⟨(congrArg (fun z => some (Value.int z)) (show nar .boolean (1 : Int32) = fn0 p0 w_OUTSIDE w_INSIDE by unfold fn0; rw [if_pos hc1, if_neg hc5, if_neg hc9, if_neg hc10]; try rfl)), N3, e8⟩ (by decide) (by decide)
  · refine Gl.by (g' := (mkF m 6 #[.val (.int p0), .unset, .unset, .unset, .unset, .unset] [])) (fun _ k => XS.ifNo X0.here hx rfl (hb hby at_3) rfl ((if0 _ _).trans (feq hc1).1) k) ?_
    refine Gl.by (g' := (mkF m 7 #[.val (.int p0), .unset, .unset, .unset, .unset, .unset] [(.int (1 : Int32))])) (fun _ k => XS.iconst X0.here hx rfl (hb hby at_6) k) ?_
    refine Gl.by (g' := (mkF m 11 #[.val (.int p0), .unset, .unset, .unset, .unset, .unset] [(.int (1 : Int32))])) (fun _ k => XS.goto X0.here hx rfl (pc0 := 7) (pc' := 11) rfl (hb hby at_7) (by decide) (by decide) k) ?_
    refine Gl.by (g' := (mkF m 12 #[.val (.int p0), .val (.int (1 : Int32)), .unset, .unset, .unset, .unset] [])) (fun _ k => XS.istoreN X0.here hx rfl (hb hby at_11) rfl (l' := #[.val (.int p0), .val (.int (1 : Int32)), .unset, .unset, .unset, .unset]) rfl k) ?_
    refine Gl.by (g' := (mkF m 13 #[.val (.int p0), .val (.int (1 : Int32)), .unset, .unset, .unset, .unset] [(.int (1 : Int32))])) (fun _ k => XS.iloadN X0.here hx rfl (hb hby at_12) rfl k) ?_
    obtain ⟨_, _, ⟨T11, L11, k11, n11⟩, -, X11, ⟨Lc11, hQ11, l11, y11, z11⟩, st11⟩ := Jvm.LawKit.callS X0 hx (y := (⟨"com/example/talaria/talaria/engine/TrustSide", "of", "(Z)Lcom/example/talaria/talaria/engine/TrustSide;"⟩ : MethodName)) hown (mvT hZ (hw _ (List.mem_of_getElem? (i := 0) rfl))) (mvT hZ (hw _ (List.mem_of_getElem? (i := 1) rfl))) (mvT hZ (hw _ (List.mem_of_getElem? (i := 2) rfl))) (mvT hZ (hw _ (List.mem_of_getElem? (i := 3) rfl))) (by decide) (backOf (W := 0) (rm1 l Z a0 hw [] (1 : Int32) w_OUTSIDE w_INSIDE h0 n0 O W) hZ (hw _ (List.mem_of_getElem? (i := 3) rfl)) (hw _ (List.mem_of_getElem? (i := 2) rfl)) (by decide) (by decide)) (g := (mkF m 13 #[.val (.int p0), .val (.int (1 : Int32)), .unset, .unset, .unset, .unset] [(.int (1 : Int32))])) rfl (by rw [hml]; rfl) (argsL := [(.int (1 : Int32))]) (rest := []) (lenOf pd0 rfl) rfl (by show 2 * 0 + _ ≤ _; exact Nat.le_of_eq rfl) (hb hby at_13) (fun _ _ => ⟨rfl, e0, (by decide : 0 + 0 ≤ _), (by decide : 0 + 0 ≤ _)⟩)
    dsimp only [Pt.U, Pt.locs, Pt.cells, Pt.slots] at X11 l11 y11 z11 st11 hQ11
    subst l11 y11 z11
    obtain ⟨rfl, N11q, e11⟩ := hQ11
    have N11 := Fr.app N0 N11q
    refine Gl.by (g' := (mkF m 16 #[.val (.int p0), .val (.int (1 : Int32)), .unset, .unset, .unset, .unset] [(.ref (fn1 (1 : Int32) w_OUTSIDE w_INSIDE))])) st11 ?_
    refine Gl.by (g' := (mkF m 17 #[.val (.int p0), .val (.int (1 : Int32)), .val (.ref (fn1 (1 : Int32) w_OUTSIDE w_INSIDE)), .unset, .unset, .unset] [])) (fun _ k => XS.astoreN X11.here hx rfl (hb hby at_16) rfl rfl (l' := #[.val (.int p0), .val (.int (1 : Int32)), .val (.ref (fn1 (1 : Int32) w_OUTSIDE w_INSIDE)), .unset, .unset, .unset]) rfl k) ?_
    refine Gl.by (g' := (mkF m 18 #[.val (.int p0), .val (.int (1 : Int32)), .val (.ref (fn1 (1 : Int32) w_OUTSIDE w_INSIDE)), .unset, .unset, .unset] [(.int (1 : Int32))])) (fun _ k => XS.iloadN X11.here hx rfl (hb hby at_17) rfl k) ?_
    refine Gl.by (g' := (mkF m 25 #[.val (.int p0), .val (.int (1 : Int32)), .val (.ref (fn1 (1 : Int32) w_OUTSIDE w_INSIDE)), .unset, .unset, .unset] [])) (fun _ k => XS.ifYes X11.here hx rfl (pc0 := 18) (pc' := 25) rfl (hb hby at_18) rfl ((if0 _ _).trans (feq (by decide : ¬ ((1 : Int32) = (0 : Int32)))).2) (by decide) (by decide) k) ?_
    refine Gl.by (g' := (mkF m 26 #[.val (.int p0), .val (.int (1 : Int32)), .val (.ref (fn1 (1 : Int32) w_OUTSIDE w_INSIDE)), .unset, .unset, .unset] [(.int (0 : Int32))])) (fun _ k => XS.iconst X11.here hx rfl (hb hby at_25) k) ?_
    obtain ⟨_, _, ⟨T12, L12, k12, n12⟩, -, X12, ⟨Lc12, hQ12, l12, y12, z12⟩, st12⟩ := Jvm.LawKit.callS X11 hx (y := (⟨"com/example/talaria/talaria/engine/TrustSide", "of", "(Z)Lcom/example/talaria/talaria/engine/TrustSide;"⟩ : MethodName)) hown (mvT hZ (hw _ (List.mem_of_getElem? (i := 0) rfl))) (mvT hZ (hw _ (List.mem_of_getElem? (i := 1) rfl))) (mvT hZ (hw _ (List.mem_of_getElem? (i := 2) rfl))) (mvT hZ (hw _ (List.mem_of_getElem? (i := 3) rfl))) (by decide) (backOf (W := 0) (rm1 l Z a0 hw [] (0 : Int32) w_OUTSIDE w_INSIDE h0 n0 O W) hZ (hw _ (List.mem_of_getElem? (i := 3) rfl)) (hw _ (List.mem_of_getElem? (i := 2) rfl)) (by decide) (by decide)) (g := (mkF m 26 #[.val (.int p0), .val (.int (1 : Int32)), .val (.ref (fn1 (1 : Int32) w_OUTSIDE w_INSIDE)), .unset, .unset, .unset] [(.int (0 : Int32))])) rfl (by rw [hml]; rfl) (argsL := [(.int (0 : Int32))]) (rest := []) (lenOf pd0 rfl) rfl (by show 2 * 0 + _ ≤ _; exact Nat.le_of_eq rfl) (hb hby at_26) (fun _ _ => ⟨rfl, e11, (by decide : 0 + 0 ≤ _), (by decide : 0 + 0 ≤ _)⟩)
    dsimp only [Pt.U, Pt.locs, Pt.cells, Pt.slots] at X12 l12 y12 z12 st12 hQ12
    subst l12 y12 z12
    obtain ⟨rfl, N12q, e12⟩ := hQ12
    have N12 := Fr.app N11 N12q
    refine Gl.by (g' := (mkF m 29 #[.val (.int p0), .val (.int (1 : Int32)), .val (.ref (fn1 (1 : Int32) w_OUTSIDE w_INSIDE)), .unset, .unset, .unset] [(.ref (fn1 (0 : Int32) w_OUTSIDE w_INSIDE))])) st12 ?_
    refine Gl.by (g' := (mkF m 30 #[.val (.int p0), .val (.int (1 : Int32)), .val (.ref (fn1 (1 : Int32) w_OUTSIDE w_INSIDE)), .val (.ref (fn1 (0 : Int32) w_OUTSIDE w_INSIDE)), .unset, .unset] [])) (fun _ k => XS.astoreN X12.here hx rfl (hb hby at_29) rfl rfl (l' := #[.val (.int p0), .val (.int (1 : Int32)), .val (.ref (fn1 (1 : Int32) w_OUTSIDE w_INSIDE)), .val (.ref (fn1 (0 : Int32) w_OUTSIDE w_INSIDE)), .unset, .unset]) rfl k) ?_
    refine Gl.by (g' := (mkF m 31 #[.val (.int p0), .val (.int (1 : Int32)), .val (.ref (fn1 (1 : Int32) w_OUTSIDE w_INSIDE)), .val (.ref (fn1 (0 : Int32) w_OUTSIDE w_INSIDE)), .unset, .unset] [(.ref (fn1 (1 : Int32) w_OUTSIDE w_INSIDE))])) (fun _ k => XS.aloadN X12.here hx rfl (hb hby at_30) rfl rfl k) ?_
    refine Gl.by (g' := (mkF m 34 #[.val (.int p0), .val (.int (1 : Int32)), .val (.ref (fn1 (1 : Int32) w_OUTSIDE w_INSIDE)), .val (.ref (fn1 (0 : Int32) w_OUTSIDE w_INSIDE)), .unset, .unset] [])) (fun _ k => XS.ifnullNo X12.here hx rfl (hb hby at_31) rfl k) ?_
    refine Gl.by (g' := (mkF m 35 #[.val (.int p0), .val (.int (1 : Int32)), .val (.ref (fn1 (1 : Int32) w_OUTSIDE w_INSIDE)), .val (.ref (fn1 (0 : Int32) w_OUTSIDE w_INSIDE)), .unset, .unset] [(.ref (fn1 (0 : Int32) w_OUTSIDE w_INSIDE))])) (fun _ k => XS.aloadN X12.here hx rfl (hb hby at_34) rfl rfl k) ?_
    refine Gl.by (g' := (mkF m 40 #[.val (.int p0), .val (.int (1 : Int32)), .val (.ref (fn1 (1 : Int32) w_OUTSIDE w_INSIDE)), .val (.ref (fn1 (0 : Int32) w_OUTSIDE w_INSIDE)), .unset, .unset] [])) (fun _ k => XS.ifnonnullYes X12.here hx rfl (pc0 := 35) (pc' := 40) rfl (hb hby at_35) rfl (by decide) (by decide) k) ?_
    refine Gl.by (g' := (mkF m 41 #[.val (.int p0), .val (.int (1 : Int32)), .val (.ref (fn1 (1 : Int32) w_OUTSIDE w_INSIDE)), .val (.ref (fn1 (0 : Int32) w_OUTSIDE w_INSIDE)), .unset, .unset] [(.ref (fn1 (1 : Int32) w_OUTSIDE w_INSIDE))])) (fun _ k => XS.aloadN X12.here hx rfl (hb hby at_40) rfl rfl k) ?_
    obtain ⟨T13, X13, e13, st13⟩ := getS2 X12 hx hZ hown (host := "") (Or.inl (hw _ (List.mem_of_getElem? (i := 8) rfl))) Via.refl e12 (Sta.ext O.2 W.2.2.1) (g := (mkF m 41 #[.val (.int p0), .val (.int (1 : Int32)), .val (.ref (fn1 (1 : Int32) w_OUTSIDE w_INSIDE)), .val (.ref (fn1 (0 : Int32) w_OUTSIDE w_INSIDE)), .unset, .unset] [(.ref (fn1 (1 : Int32) w_OUTSIDE w_INSIDE))])) rfl (hb hby at_41)
    refine Gl.by (g' := (mkF m 44 #[.val (.int p0), .val (.int (1 : Int32)), .val (.ref (fn1 (1 : Int32) w_OUTSIDE w_INSIDE)), .val (.ref (fn1 (0 : Int32) w_OUTSIDE w_INSIDE)), .unset, .unset] [(.ref w_INSIDE), (.ref (fn1 (1 : Int32) w_OUTSIDE w_INSIDE))])) st13 ?_
    by_cases hc14 : (fn1 (1 : Int32) w_OUTSIDE w_INSIDE) = w_INSIDE
    · refine Gl.by (g' := (mkF m 47 #[.val (.int p0), .val (.int (1 : Int32)), .val (.ref (fn1 (1 : Int32) w_OUTSIDE w_INSIDE)), .val (.ref (fn1 (0 : Int32) w_OUTSIDE w_INSIDE)), .unset, .unset] [])) (fun _ k => Jvm.RoadKit.acmp (g := (mkF m 44 #[.val (.int p0), .val (.int (1 : Int32)), .val (.ref (fn1 (1 : Int32) w_OUTSIDE w_INSIDE)), .val (.ref (fn1 (0 : Int32) w_OUTSIDE w_INSIDE)), .unset, .unset] [(.ref w_INSIDE), (.ref (fn1 (1 : Int32) w_OUTSIDE w_INSIDE))])) X13 hx rfl rfl rfl (pc0 := 44) (pc' := 47) (same := true) rfl (hb hby at_44) rfl (decide_eq_true (congrArg Value.ref hc14)) (by decide) (by decide) k) ?_
      refine Gl.by (g' := (mkF m 48 #[.val (.int p0), .val (.int (1 : Int32)), .val (.ref (fn1 (1 : Int32) w_OUTSIDE w_INSIDE)), .val (.ref (fn1 (0 : Int32) w_OUTSIDE w_INSIDE)), .unset, .unset] [(.int (1 : Int32))])) (fun _ k => XS.iconst X13.here hx rfl (hb hby at_47) k) ?_
      refine Gl.by (g' := (mkF m 52 #[.val (.int p0), .val (.int (1 : Int32)), .val (.ref (fn1 (1 : Int32) w_OUTSIDE w_INSIDE)), .val (.ref (fn1 (0 : Int32) w_OUTSIDE w_INSIDE)), .unset, .unset] [(.int (1 : Int32))])) (fun _ k => XS.goto X13.here hx rfl (pc0 := 48) (pc' := 52) rfl (hb hby at_48) (by decide) (by decide) k) ?_
      refine Gl.by (g' := (mkF m 54 #[.val (.int p0), .val (.int (1 : Int32)), .val (.ref (fn1 (1 : Int32) w_OUTSIDE w_INSIDE)), .val (.ref (fn1 (0 : Int32) w_OUTSIDE w_INSIDE)), .val (.int (1 : Int32)), .unset] [])) (fun _ k => XS.istore X13.here hx rfl (hb hby at_52) rfl (l' := #[.val (.int p0), .val (.int (1 : Int32)), .val (.ref (fn1 (1 : Int32) w_OUTSIDE w_INSIDE)), .val (.ref (fn1 (0 : Int32) w_OUTSIDE w_INSIDE)), .val (.int (1 : Int32)), .unset]) rfl k) ?_
      refine Gl.by (g' := (mkF m 55 #[.val (.int p0), .val (.int (1 : Int32)), .val (.ref (fn1 (1 : Int32) w_OUTSIDE w_INSIDE)), .val (.ref (fn1 (0 : Int32) w_OUTSIDE w_INSIDE)), .val (.int (1 : Int32)), .unset] [(.ref (fn1 (0 : Int32) w_OUTSIDE w_INSIDE))])) (fun _ k => XS.aloadN X13.here hx rfl (hb hby at_54) rfl rfl k) ?_
      obtain ⟨T15, X15, e15, st15⟩ := getS2 X13 hx hZ hown (host := "") (Or.inl (hw _ (List.mem_of_getElem? (i := 9) rfl))) Via.refl e13 (Sta.ext O.2 W.1) (g := (mkF m 55 #[.val (.int p0), .val (.int (1 : Int32)), .val (.ref (fn1 (1 : Int32) w_OUTSIDE w_INSIDE)), .val (.ref (fn1 (0 : Int32) w_OUTSIDE w_INSIDE)), .val (.int (1 : Int32)), .unset] [(.ref (fn1 (0 : Int32) w_OUTSIDE w_INSIDE))])) rfl (hb hby at_55)
      refine Gl.by (g' := (mkF m 58 #[.val (.int p0), .val (.int (1 : Int32)), .val (.ref (fn1 (1 : Int32) w_OUTSIDE w_INSIDE)), .val (.ref (fn1 (0 : Int32) w_OUTSIDE w_INSIDE)), .val (.int (1 : Int32)), .unset] [(.ref w_OUTSIDE), (.ref (fn1 (0 : Int32) w_OUTSIDE w_INSIDE))])) st15 ?_
      by_cases hc16 : (fn1 (0 : Int32) w_OUTSIDE w_INSIDE) = w_OUTSIDE
      · refine Gl.by (g' := (mkF m 61 #[.val (.int p0), .val (.int (1 : Int32)), .val (.ref (fn1 (1 : Int32) w_OUTSIDE w_INSIDE)), .val (.ref (fn1 (0 : Int32) w_OUTSIDE w_INSIDE)), .val (.int (1 : Int32)), .unset] [])) (fun _ k => Jvm.RoadKit.acmp (g := (mkF m 58 #[.val (.int p0), .val (.int (1 : Int32)), .val (.ref (fn1 (1 : Int32) w_OUTSIDE w_INSIDE)), .val (.ref (fn1 (0 : Int32) w_OUTSIDE w_INSIDE)), .val (.int (1 : Int32)), .unset] [(.ref w_OUTSIDE), (.ref (fn1 (0 : Int32) w_OUTSIDE w_INSIDE))])) X15 hx rfl rfl rfl (pc0 := 58) (pc' := 61) (same := true) rfl (hb hby at_58) rfl (decide_eq_true (congrArg Value.ref hc16)) (by decide) (by decide) k) ?_
        refine Gl.by (g' := (mkF m 62 #[.val (.int p0), .val (.int (1 : Int32)), .val (.ref (fn1 (1 : Int32) w_OUTSIDE w_INSIDE)), .val (.ref (fn1 (0 : Int32) w_OUTSIDE w_INSIDE)), .val (.int (1 : Int32)), .unset] [(.int (1 : Int32))])) (fun _ k => XS.iconst X15.here hx rfl (hb hby at_61) k) ?_
        refine Gl.by (g' := (mkF m 66 #[.val (.int p0), .val (.int (1 : Int32)), .val (.ref (fn1 (1 : Int32) w_OUTSIDE w_INSIDE)), .val (.ref (fn1 (0 : Int32) w_OUTSIDE w_INSIDE)), .val (.int (1 : Int32)), .unset] [(.int (1 : Int32))])) (fun _ k => XS.goto X15.here hx rfl (pc0 := 62) (pc' := 66) rfl (hb hby at_62) (by decide) (by decide) k) ?_
        refine Gl.by (g' := (mkF m 68 #[.val (.int p0), .val (.int (1 : Int32)), .val (.ref (fn1 (1 : Int32) w_OUTSIDE w_INSIDE)), .val (.ref (fn1 (0 : Int32) w_OUTSIDE w_INSIDE)), .val (.int (1 : Int32)), .val (.int (1 : Int32))] [])) (fun _ k => XS.istore X15.here hx rfl (hb hby at_66) rfl (l' := #[.val (.int p0), .val (.int (1 : Int32)), .val (.ref (fn1 (1 : Int32) w_OUTSIDE w_INSIDE)), .val (.ref (fn1 (0 : Int32) w_OUTSIDE w_INSIDE)), .val (.int (1 : Int32)), .val (.int (1 : Int32))]) rfl k) ?_
        refine Gl.by (g' := (mkF m 70 #[.val (.int p0), .val (.int (1 : Int32)), .val (.ref (fn1 (1 : Int32) w_OUTSIDE w_INSIDE)), .val (.ref (fn1 (0 : Int32) w_OUTSIDE w_INSIDE)), .val (.int (1 : Int32)), .val (.int (1 : Int32))] [(.int (1 : Int32))])) (fun _ k => XS.iload X15.here hx rfl (hb hby at_68) rfl k) ?_
        refine Gl.by (g' := (mkF m 71 #[.val (.int p0), .val (.int (1 : Int32)), .val (.ref (fn1 (1 : Int32) w_OUTSIDE w_INSIDE)), .val (.ref (fn1 (0 : Int32) w_OUTSIDE w_INSIDE)), .val (.int (1 : Int32)), .val (.int (1 : Int32))] [(.int (1 : Int32)), (.int (1 : Int32))])) (fun _ k => XS.iloadN X15.here hx rfl (hb hby at_70) rfl k) ?_
        refine Gl.by (g' := (mkF m 74 #[.val (.int p0), .val (.int (1 : Int32)), .val (.ref (fn1 (1 : Int32) w_OUTSIDE w_INSIDE)), .val (.ref (fn1 (0 : Int32) w_OUTSIDE w_INSIDE)), .val (.int (1 : Int32)), .val (.int (1 : Int32))] [])) (fun _ k => XS.icmpNo X15.here hx rfl (hb hby at_71) rfl (teq (by decide : (1 : Int32) = (1 : Int32))).2 k) ?_
        refine Gl.by (g' := (mkF m 76 #[.val (.int p0), .val (.int (1 : Int32)), .val (.ref (fn1 (1 : Int32) w_OUTSIDE w_INSIDE)), .val (.ref (fn1 (0 : Int32) w_OUTSIDE w_INSIDE)), .val (.int (1 : Int32)), .val (.int (1 : Int32))] [(.int (1 : Int32))])) (fun _ k => XS.iload X15.here hx rfl (hb hby at_74) rfl k) ?_
        refine Gl.by (g' := (mkF m 77 #[.val (.int p0), .val (.int (1 : Int32)), .val (.ref (fn1 (1 : Int32) w_OUTSIDE w_INSIDE)), .val (.ref (fn1 (0 : Int32) w_OUTSIDE w_INSIDE)), .val (.int (1 : Int32)), .val (.int (1 : Int32))] [(.int (1 : Int32)), (.int (1 : Int32))])) (fun _ k => XS.iloadN X15.here hx rfl (hb hby at_76) rfl k) ?_
        refine Gl.by (g' := (mkF m 80 #[.val (.int p0), .val (.int (1 : Int32)), .val (.ref (fn1 (1 : Int32) w_OUTSIDE w_INSIDE)), .val (.ref (fn1 (0 : Int32) w_OUTSIDE w_INSIDE)), .val (.int (1 : Int32)), .val (.int (1 : Int32))] [])) (fun _ k => XS.icmpNo X15.here hx rfl (hb hby at_77) rfl (teq (by decide : (1 : Int32) = (1 : Int32))).2 k) ?_
        refine Gl.by (g' := (mkF m 81 #[.val (.int p0), .val (.int (1 : Int32)), .val (.ref (fn1 (1 : Int32) w_OUTSIDE w_INSIDE)), .val (.ref (fn1 (0 : Int32) w_OUTSIDE w_INSIDE)), .val (.int (1 : Int32)), .val (.int (1 : Int32))] [(.ref (fn1 (1 : Int32) w_OUTSIDE w_INSIDE))])) (fun _ k => XS.aloadN X15.here hx rfl (hb hby at_80) rfl rfl k) ?_
        refine Gl.by (g' := (mkF m 82 #[.val (.int p0), .val (.int (1 : Int32)), .val (.ref (fn1 (1 : Int32) w_OUTSIDE w_INSIDE)), .val (.ref (fn1 (0 : Int32) w_OUTSIDE w_INSIDE)), .val (.int (1 : Int32)), .val (.int (1 : Int32))] [(.ref (fn1 (0 : Int32) w_OUTSIDE w_INSIDE)), (.ref (fn1 (1 : Int32) w_OUTSIDE w_INSIDE))])) (fun _ k => XS.aloadN X15.here hx rfl (hb hby at_81) rfl rfl k) ?_
        by_cases hc17 : (fn1 (1 : Int32) w_OUTSIDE w_INSIDE) = (fn1 (0 : Int32) w_OUTSIDE w_INSIDE)
        · refine Gl.by (g' := (mkF m 89 #[.val (.int p0), .val (.int (1 : Int32)), .val (.ref (fn1 (1 : Int32) w_OUTSIDE w_INSIDE)), .val (.ref (fn1 (0 : Int32) w_OUTSIDE w_INSIDE)), .val (.int (1 : Int32)), .val (.int (1 : Int32))] [])) (fun _ k => Jvm.RoadKit.acmp (g := (mkF m 82 #[.val (.int p0), .val (.int (1 : Int32)), .val (.ref (fn1 (1 : Int32) w_OUTSIDE w_INSIDE)), .val (.ref (fn1 (0 : Int32) w_OUTSIDE w_INSIDE)), .val (.int (1 : Int32)), .val (.int (1 : Int32))] [(.ref (fn1 (0 : Int32) w_OUTSIDE w_INSIDE)), (.ref (fn1 (1 : Int32) w_OUTSIDE w_INSIDE))])) X15 hx rfl rfl rfl (pc0 := 82) (pc' := 89) (same := true) rfl (hb hby at_82) rfl (decide_eq_true (congrArg Value.ref hc17)) (by decide) (by decide) k) ?_
          refine Gl.by (g' := (mkF m 90 #[.val (.int p0), .val (.int (1 : Int32)), .val (.ref (fn1 (1 : Int32) w_OUTSIDE w_INSIDE)), .val (.ref (fn1 (0 : Int32) w_OUTSIDE w_INSIDE)), .val (.int (1 : Int32)), .val (.int (1 : Int32))] [(.int (0 : Int32))])) (fun _ k => XS.iconst X15.here hx rfl (hb hby at_89) k) ?_
          exact Gl.outN X15 hx hk (t := .boolean) Bd.returns (by simp) (hb hby at_90) ⟨(congrArg (fun z => some (Value.int z)) (show nar .boolean (0 : Int32) = fn0 p0 w_OUTSIDE w_INSIDE by unfold fn0; rw [if_neg hc1, if_pos hc14, if_pos hc16, if_pos hc17]; try rfl)), N12, e15⟩ (by decide) (by decide)
        · refine Gl.by (g' := (mkF m 85 #[.val (.int p0), .val (.int (1 : Int32)), .val (.ref (fn1 (1 : Int32) w_OUTSIDE w_INSIDE)), .val (.ref (fn1 (0 : Int32) w_OUTSIDE w_INSIDE)), .val (.int (1 : Int32)), .val (.int (1 : Int32))] [])) (fun _ k => Jvm.RoadKit.acmp (g := (mkF m 82 #[.val (.int p0), .val (.int (1 : Int32)), .val (.ref (fn1 (1 : Int32) w_OUTSIDE w_INSIDE)), .val (.ref (fn1 (0 : Int32) w_OUTSIDE w_INSIDE)), .val (.int (1 : Int32)), .val (.int (1 : Int32))] [(.ref (fn1 (0 : Int32) w_OUTSIDE w_INSIDE)), (.ref (fn1 (1 : Int32) w_OUTSIDE w_INSIDE))])) X15 hx rfl rfl rfl (pc0 := 82) (pc' := 85) (same := false) rfl (hb hby at_82) rfl (decide_eq_false fun q => hc17 (Value.ref.inj q)) (by decide) (by decide) k) ?_
          refine Gl.by (g' := (mkF m 86 #[.val (.int p0), .val (.int (1 : Int32)), .val (.ref (fn1 (1 : Int32) w_OUTSIDE w_INSIDE)), .val (.ref (fn1 (0 : Int32) w_OUTSIDE w_INSIDE)), .val (.int (1 : Int32)), .val (.int (1 : Int32))] [(.int (1 : Int32))])) (fun _ k => XS.iconst X15.here hx rfl (hb hby at_85) k) ?_
          refine Gl.by (g' := (mkF m 90 #[.val (.int p0), .val (.int (1 : Int32)), .val (.ref (fn1 (1 : Int32) w_OUTSIDE w_INSIDE)), .val (.ref (fn1 (0 : Int32) w_OUTSIDE w_INSIDE)), .val (.int (1 : Int32)), .val (.int (1 : Int32))] [(.int (1 : Int32))])) (fun _ k => XS.goto X15.here hx rfl (pc0 := 86) (pc' := 90) rfl (hb hby at_86) (by decide) (by decide) k) ?_
          exact Gl.outN X15 hx hk (t := .boolean) Bd.returns (by simp) (hb hby at_90) ⟨(congrArg (fun z => some (Value.int z)) (show nar .boolean (1 : Int32) = fn0 p0 w_OUTSIDE w_INSIDE by unfold fn0; rw [if_neg hc1, if_pos hc14, if_pos hc16, if_neg hc17]; try rfl)), N12, e15⟩ (by decide) (by decide)
      · refine Gl.by (g' := (mkF m 65 #[.val (.int p0), .val (.int (1 : Int32)), .val (.ref (fn1 (1 : Int32) w_OUTSIDE w_INSIDE)), .val (.ref (fn1 (0 : Int32) w_OUTSIDE w_INSIDE)), .val (.int (1 : Int32)), .unset] [])) (fun _ k => Jvm.RoadKit.acmp (g := (mkF m 58 #[.val (.int p0), .val (.int (1 : Int32)), .val (.ref (fn1 (1 : Int32) w_OUTSIDE w_INSIDE)), .val (.ref (fn1 (0 : Int32) w_OUTSIDE w_INSIDE)), .val (.int (1 : Int32)), .unset] [(.ref w_OUTSIDE), (.ref (fn1 (0 : Int32) w_OUTSIDE w_INSIDE))])) X15 hx rfl rfl rfl (pc0 := 58) (pc' := 65) (same := false) rfl (hb hby at_58) rfl (decide_eq_false fun q => hc16 (Value.ref.inj q)) (by decide) (by decide) k) ?_
        refine Gl.by (g' := (mkF m 66 #[.val (.int p0), .val (.int (1 : Int32)), .val (.ref (fn1 (1 : Int32) w_OUTSIDE w_INSIDE)), .val (.ref (fn1 (0 : Int32) w_OUTSIDE w_INSIDE)), .val (.int (1 : Int32)), .unset] [(.int (0 : Int32))])) (fun _ k => XS.iconst X15.here hx rfl (hb hby at_65) k) ?_
        refine Gl.by (g' := (mkF m 68 #[.val (.int p0), .val (.int (1 : Int32)), .val (.ref (fn1 (1 : Int32) w_OUTSIDE w_INSIDE)), .val (.ref (fn1 (0 : Int32) w_OUTSIDE w_INSIDE)), .val (.int (1 : Int32)), .val (.int (0 : Int32))] [])) (fun _ k => XS.istore X15.here hx rfl (hb hby at_66) rfl (l' := #[.val (.int p0), .val (.int (1 : Int32)), .val (.ref (fn1 (1 : Int32) w_OUTSIDE w_INSIDE)), .val (.ref (fn1 (0 : Int32) w_OUTSIDE w_INSIDE)), .val (.int (1 : Int32)), .val (.int (0 : Int32))]) rfl k) ?_
        refine Gl.by (g' := (mkF m 70 #[.val (.int p0), .val (.int (1 : Int32)), .val (.ref (fn1 (1 : Int32) w_OUTSIDE w_INSIDE)), .val (.ref (fn1 (0 : Int32) w_OUTSIDE w_INSIDE)), .val (.int (1 : Int32)), .val (.int (0 : Int32))] [(.int (1 : Int32))])) (fun _ k => XS.iload X15.here hx rfl (hb hby at_68) rfl k) ?_
        refine Gl.by (g' := (mkF m 71 #[.val (.int p0), .val (.int (1 : Int32)), .val (.ref (fn1 (1 : Int32) w_OUTSIDE w_INSIDE)), .val (.ref (fn1 (0 : Int32) w_OUTSIDE w_INSIDE)), .val (.int (1 : Int32)), .val (.int (0 : Int32))] [(.int (1 : Int32)), (.int (1 : Int32))])) (fun _ k => XS.iloadN X15.here hx rfl (hb hby at_70) rfl k) ?_
        refine Gl.by (g' := (mkF m 74 #[.val (.int p0), .val (.int (1 : Int32)), .val (.ref (fn1 (1 : Int32) w_OUTSIDE w_INSIDE)), .val (.ref (fn1 (0 : Int32) w_OUTSIDE w_INSIDE)), .val (.int (1 : Int32)), .val (.int (0 : Int32))] [])) (fun _ k => XS.icmpNo X15.here hx rfl (hb hby at_71) rfl (teq (by decide : (1 : Int32) = (1 : Int32))).2 k) ?_
        refine Gl.by (g' := (mkF m 76 #[.val (.int p0), .val (.int (1 : Int32)), .val (.ref (fn1 (1 : Int32) w_OUTSIDE w_INSIDE)), .val (.ref (fn1 (0 : Int32) w_OUTSIDE w_INSIDE)), .val (.int (1 : Int32)), .val (.int (0 : Int32))] [(.int (0 : Int32))])) (fun _ k => XS.iload X15.here hx rfl (hb hby at_74) rfl k) ?_
        refine Gl.by (g' := (mkF m 77 #[.val (.int p0), .val (.int (1 : Int32)), .val (.ref (fn1 (1 : Int32) w_OUTSIDE w_INSIDE)), .val (.ref (fn1 (0 : Int32) w_OUTSIDE w_INSIDE)), .val (.int (1 : Int32)), .val (.int (0 : Int32))] [(.int (1 : Int32)), (.int (0 : Int32))])) (fun _ k => XS.iloadN X15.here hx rfl (hb hby at_76) rfl k) ?_
        refine Gl.by (g' := (mkF m 89 #[.val (.int p0), .val (.int (1 : Int32)), .val (.ref (fn1 (1 : Int32) w_OUTSIDE w_INSIDE)), .val (.ref (fn1 (0 : Int32) w_OUTSIDE w_INSIDE)), .val (.int (1 : Int32)), .val (.int (0 : Int32))] [])) (fun _ k => XS.icmpYes X15.here hx rfl (pc0 := 77) (pc' := 89) rfl (hb hby at_77) rfl (feq (by decide : ¬ ((0 : Int32) = (1 : Int32)))).2 (by decide) (by decide) k) ?_
        refine Gl.by (g' := (mkF m 90 #[.val (.int p0), .val (.int (1 : Int32)), .val (.ref (fn1 (1 : Int32) w_OUTSIDE w_INSIDE)), .val (.ref (fn1 (0 : Int32) w_OUTSIDE w_INSIDE)), .val (.int (1 : Int32)), .val (.int (0 : Int32))] [(.int (0 : Int32))])) (fun _ k => XS.iconst X15.here hx rfl (hb hby at_89) k) ?_
        exact Gl.outN X15 hx hk (t := .boolean) Bd.returns (by simp) (hb hby at_90) ⟨(congrArg (fun z => some (Value.int z)) (show nar .boolean (0 : Int32) = fn0 p0 w_OUTSIDE w_INSIDE by unfold fn0; rw [if_neg hc1, if_pos hc14, if_neg hc16]; try rfl)), N12, e15⟩ (by decide) (by decide)
    · refine Gl.by (g' := (mkF m 51 #[.val (.int p0), .val (.int (1 : Int32)), .val (.ref (fn1 (1 : Int32) w_OUTSIDE w_INSIDE)), .val (.ref (fn1 (0 : Int32) w_OUTSIDE w_INSIDE)), .unset, .unset] [])) (fun _ k => Jvm.RoadKit.acmp (g := (mkF m 44 #[.val (.int p0), .val (.int (1 : Int32)), .val (.ref (fn1 (1 : Int32) w_OUTSIDE w_INSIDE)), .val (.ref (fn1 (0 : Int32) w_OUTSIDE w_INSIDE)), .unset, .unset] [(.ref w_INSIDE), (.ref (fn1 (1 : Int32) w_OUTSIDE w_INSIDE))])) X13 hx rfl rfl rfl (pc0 := 44) (pc' := 51) (same := false) rfl (hb hby at_44) rfl (decide_eq_false fun q => hc14 (Value.ref.inj q)) (by decide) (by decide) k) ?_
      refine Gl.by (g' := (mkF m 52 #[.val (.int p0), .val (.int (1 : Int32)), .val (.ref (fn1 (1 : Int32) w_OUTSIDE w_INSIDE)), .val (.ref (fn1 (0 : Int32) w_OUTSIDE w_INSIDE)), .unset, .unset] [(.int (0 : Int32))])) (fun _ k => XS.iconst X13.here hx rfl (hb hby at_51) k) ?_
      refine Gl.by (g' := (mkF m 54 #[.val (.int p0), .val (.int (1 : Int32)), .val (.ref (fn1 (1 : Int32) w_OUTSIDE w_INSIDE)), .val (.ref (fn1 (0 : Int32) w_OUTSIDE w_INSIDE)), .val (.int (0 : Int32)), .unset] [])) (fun _ k => XS.istore X13.here hx rfl (hb hby at_52) rfl (l' := #[.val (.int p0), .val (.int (1 : Int32)), .val (.ref (fn1 (1 : Int32) w_OUTSIDE w_INSIDE)), .val (.ref (fn1 (0 : Int32) w_OUTSIDE w_INSIDE)), .val (.int (0 : Int32)), .unset]) rfl k) ?_
      refine Gl.by (g' := (mkF m 55 #[.val (.int p0), .val (.int (1 : Int32)), .val (.ref (fn1 (1 : Int32) w_OUTSIDE w_INSIDE)), .val (.ref (fn1 (0 : Int32) w_OUTSIDE w_INSIDE)), .val (.int (0 : Int32)), .unset] [(.ref (fn1 (0 : Int32) w_OUTSIDE w_INSIDE))])) (fun _ k => XS.aloadN X13.here hx rfl (hb hby at_54) rfl rfl k) ?_
      obtain ⟨T18, X18, e18, st18⟩ := getS2 X13 hx hZ hown (host := "") (Or.inl (hw _ (List.mem_of_getElem? (i := 9) rfl))) Via.refl e13 (Sta.ext O.2 W.1) (g := (mkF m 55 #[.val (.int p0), .val (.int (1 : Int32)), .val (.ref (fn1 (1 : Int32) w_OUTSIDE w_INSIDE)), .val (.ref (fn1 (0 : Int32) w_OUTSIDE w_INSIDE)), .val (.int (0 : Int32)), .unset] [(.ref (fn1 (0 : Int32) w_OUTSIDE w_INSIDE))])) rfl (hb hby at_55)
      refine Gl.by (g' := (mkF m 58 #[.val (.int p0), .val (.int (1 : Int32)), .val (.ref (fn1 (1 : Int32) w_OUTSIDE w_INSIDE)), .val (.ref (fn1 (0 : Int32) w_OUTSIDE w_INSIDE)), .val (.int (0 : Int32)), .unset] [(.ref w_OUTSIDE), (.ref (fn1 (0 : Int32) w_OUTSIDE w_INSIDE))])) st18 ?_
      by_cases hc19 : (fn1 (0 : Int32) w_OUTSIDE w_INSIDE) = w_OUTSIDE
      · refine Gl.by (g' := (mkF m 61 #[.val (.int p0), .val (.int (1 : Int32)), .val (.ref (fn1 (1 : Int32) w_OUTSIDE w_INSIDE)), .val (.ref (fn1 (0 : Int32) w_OUTSIDE w_INSIDE)), .val (.int (0 : Int32)), .unset] [])) (fun _ k => Jvm.RoadKit.acmp (g := (mkF m 58 #[.val (.int p0), .val (.int (1 : Int32)), .val (.ref (fn1 (1 : Int32) w_OUTSIDE w_INSIDE)), .val (.ref (fn1 (0 : Int32) w_OUTSIDE w_INSIDE)), .val (.int (0 : Int32)), .unset] [(.ref w_OUTSIDE), (.ref (fn1 (0 : Int32) w_OUTSIDE w_INSIDE))])) X18 hx rfl rfl rfl (pc0 := 58) (pc' := 61) (same := true) rfl (hb hby at_58) rfl (decide_eq_true (congrArg Value.ref hc19)) (by decide) (by decide) k) ?_
        refine Gl.by (g' := (mkF m 62 #[.val (.int p0), .val (.int (1 : Int32)), .val (.ref (fn1 (1 : Int32) w_OUTSIDE w_INSIDE)), .val (.ref (fn1 (0 : Int32) w_OUTSIDE w_INSIDE)), .val (.int (0 : Int32)), .unset] [(.int (1 : Int32))])) (fun _ k => XS.iconst X18.here hx rfl (hb hby at_61) k) ?_
        refine Gl.by (g' := (mkF m 66 #[.val (.int p0), .val (.int (1 : Int32)), .val (.ref (fn1 (1 : Int32) w_OUTSIDE w_INSIDE)), .val (.ref (fn1 (0 : Int32) w_OUTSIDE w_INSIDE)), .val (.int (0 : Int32)), .unset] [(.int (1 : Int32))])) (fun _ k => XS.goto X18.here hx rfl (pc0 := 62) (pc' := 66) rfl (hb hby at_62) (by decide) (by decide) k) ?_
        refine Gl.by (g' := (mkF m 68 #[.val (.int p0), .val (.int (1 : Int32)), .val (.ref (fn1 (1 : Int32) w_OUTSIDE w_INSIDE)), .val (.ref (fn1 (0 : Int32) w_OUTSIDE w_INSIDE)), .val (.int (0 : Int32)), .val (.int (1 : Int32))] [])) (fun _ k => XS.istore X18.here hx rfl (hb hby at_66) rfl (l' := #[.val (.int p0), .val (.int (1 : Int32)), .val (.ref (fn1 (1 : Int32) w_OUTSIDE w_INSIDE)), .val (.ref (fn1 (0 : Int32) w_OUTSIDE w_INSIDE)), .val (.int (0 : Int32)), .val (.int (1 : Int32))]) rfl k) ?_
        refine Gl.by (g' := (mkF m 70 #[.val (.int p0), .val (.int (1 : Int32)), .val (.ref (fn1 (1 : Int32) w_OUTSIDE w_INSIDE)), .val (.ref (fn1 (0 : Int32) w_OUTSIDE w_INSIDE)), .val (.int (0 : Int32)), .val (.int (1 : Int32))] [(.int (0 : Int32))])) (fun _ k => XS.iload X18.here hx rfl (hb hby at_68) rfl k) ?_
        refine Gl.by (g' := (mkF m 71 #[.val (.int p0), .val (.int (1 : Int32)), .val (.ref (fn1 (1 : Int32) w_OUTSIDE w_INSIDE)), .val (.ref (fn1 (0 : Int32) w_OUTSIDE w_INSIDE)), .val (.int (0 : Int32)), .val (.int (1 : Int32))] [(.int (1 : Int32)), (.int (0 : Int32))])) (fun _ k => XS.iloadN X18.here hx rfl (hb hby at_70) rfl k) ?_
        refine Gl.by (g' := (mkF m 89 #[.val (.int p0), .val (.int (1 : Int32)), .val (.ref (fn1 (1 : Int32) w_OUTSIDE w_INSIDE)), .val (.ref (fn1 (0 : Int32) w_OUTSIDE w_INSIDE)), .val (.int (0 : Int32)), .val (.int (1 : Int32))] [])) (fun _ k => XS.icmpYes X18.here hx rfl (pc0 := 71) (pc' := 89) rfl (hb hby at_71) rfl (feq (by decide : ¬ ((0 : Int32) = (1 : Int32)))).2 (by decide) (by decide) k) ?_
        refine Gl.by (g' := (mkF m 90 #[.val (.int p0), .val (.int (1 : Int32)), .val (.ref (fn1 (1 : Int32) w_OUTSIDE w_INSIDE)), .val (.ref (fn1 (0 : Int32) w_OUTSIDE w_INSIDE)), .val (.int (0 : Int32)), .val (.int (1 : Int32))] [(.int (0 : Int32))])) (fun _ k => XS.iconst X18.here hx rfl (hb hby at_89) k) ?_
        exact Gl.outN X18 hx hk (t := .boolean) Bd.returns (by simp) (hb hby at_90) ⟨(congrArg (fun z => some (Value.int z)) (show nar .boolean (0 : Int32) = fn0 p0 w_OUTSIDE w_INSIDE by unfold fn0; rw [if_neg hc1, if_neg hc14, if_pos hc19]; try rfl)), N12, e18⟩ (by decide) (by decide)
      · refine Gl.by (g' := (mkF m 65 #[.val (.int p0), .val (.int (1 : Int32)), .val (.ref (fn1 (1 : Int32) w_OUTSIDE w_INSIDE)), .val (.ref (fn1 (0 : Int32) w_OUTSIDE w_INSIDE)), .val (.int (0 : Int32)), .unset] [])) (fun _ k => Jvm.RoadKit.acmp (g := (mkF m 58 #[.val (.int p0), .val (.int (1 : Int32)), .val (.ref (fn1 (1 : Int32) w_OUTSIDE w_INSIDE)), .val (.ref (fn1 (0 : Int32) w_OUTSIDE w_INSIDE)), .val (.int (0 : Int32)), .unset] [(.ref w_OUTSIDE), (.ref (fn1 (0 : Int32) w_OUTSIDE w_INSIDE))])) X18 hx rfl rfl rfl (pc0 := 58) (pc' := 65) (same := false) rfl (hb hby at_58) rfl (decide_eq_false fun q => hc19 (Value.ref.inj q)) (by decide) (by decide) k) ?_
        refine Gl.by (g' := (mkF m 66 #[.val (.int p0), .val (.int (1 : Int32)), .val (.ref (fn1 (1 : Int32) w_OUTSIDE w_INSIDE)), .val (.ref (fn1 (0 : Int32) w_OUTSIDE w_INSIDE)), .val (.int (0 : Int32)), .unset] [(.int (0 : Int32))])) (fun _ k => XS.iconst X18.here hx rfl (hb hby at_65) k) ?_
        refine Gl.by (g' := (mkF m 68 #[.val (.int p0), .val (.int (1 : Int32)), .val (.ref (fn1 (1 : Int32) w_OUTSIDE w_INSIDE)), .val (.ref (fn1 (0 : Int32) w_OUTSIDE w_INSIDE)), .val (.int (0 : Int32)), .val (.int (0 : Int32))] [])) (fun _ k => XS.istore X18.here hx rfl (hb hby at_66) rfl (l' := #[.val (.int p0), .val (.int (1 : Int32)), .val (.ref (fn1 (1 : Int32) w_OUTSIDE w_INSIDE)), .val (.ref (fn1 (0 : Int32) w_OUTSIDE w_INSIDE)), .val (.int (0 : Int32)), .val (.int (0 : Int32))]) rfl k) ?_
        refine Gl.by (g' := (mkF m 70 #[.val (.int p0), .val (.int (1 : Int32)), .val (.ref (fn1 (1 : Int32) w_OUTSIDE w_INSIDE)), .val (.ref (fn1 (0 : Int32) w_OUTSIDE w_INSIDE)), .val (.int (0 : Int32)), .val (.int (0 : Int32))] [(.int (0 : Int32))])) (fun _ k => XS.iload X18.here hx rfl (hb hby at_68) rfl k) ?_
        refine Gl.by (g' := (mkF m 71 #[.val (.int p0), .val (.int (1 : Int32)), .val (.ref (fn1 (1 : Int32) w_OUTSIDE w_INSIDE)), .val (.ref (fn1 (0 : Int32) w_OUTSIDE w_INSIDE)), .val (.int (0 : Int32)), .val (.int (0 : Int32))] [(.int (1 : Int32)), (.int (0 : Int32))])) (fun _ k => XS.iloadN X18.here hx rfl (hb hby at_70) rfl k) ?_
        refine Gl.by (g' := (mkF m 89 #[.val (.int p0), .val (.int (1 : Int32)), .val (.ref (fn1 (1 : Int32) w_OUTSIDE w_INSIDE)), .val (.ref (fn1 (0 : Int32) w_OUTSIDE w_INSIDE)), .val (.int (0 : Int32)), .val (.int (0 : Int32))] [])) (fun _ k => XS.icmpYes X18.here hx rfl (pc0 := 71) (pc' := 89) rfl (hb hby at_71) rfl (feq (by decide : ¬ ((0 : Int32) = (1 : Int32)))).2 (by decide) (by decide) k) ?_
        refine Gl.by (g' := (mkF m 90 #[.val (.int p0), .val (.int (1 : Int32)), .val (.ref (fn1 (1 : Int32) w_OUTSIDE w_INSIDE)), .val (.ref (fn1 (0 : Int32) w_OUTSIDE w_INSIDE)), .val (.int (0 : Int32)), .val (.int (0 : Int32))] [(.int (0 : Int32))])) (fun _ k => XS.iconst X18.here hx rfl (hb hby at_89) k) ?_
        exact Gl.outN X18 hx hk (t := .boolean) Bd.returns (by simp) (hb hby at_90) ⟨(congrArg (fun z => some (Value.int z)) (show nar .boolean (0 : Int32) = fn0 p0 w_OUTSIDE w_INSIDE by unfold fn0; rw [if_neg hc1, if_neg hc14, if_neg hc19]; try rfl)), N12, e18⟩ (by decide) (by decide)
theorem plain (p0 : Int32) (w_OUTSIDE w_INSIDE : Addr) (h_OUTSIDE_INSIDE : w_OUTSIDE ≠ w_INSIDE) (h_INSIDE_OUTSIDE : w_INSIDE ≠ w_OUTSIDE) : fn0 p0 w_OUTSIDE w_INSIDE = 1 := by
  by_cases h0 : (p0 &&& (1 : Int32)) = 0 <;> simp_all [fn0, fn1]
set_option maxRecDepth 65536 in
set_option maxHeartbeats 40000000 in
theorem comes_1 {Post : Tables → Env → Array Value → State → Outcome → State → Prop} (hpost : ∀ tb e args s v u, (limb_1_1.after args s (.returned v) u = true ∧ limb_1_2.after args s (.returned v) u = true ∧ True) → FrameEnd s (.returned v) u (Jvm.fieldLocs frame_1_writes args s ++ Jvm.arrayLocs frame_1_arrays args s ++ Jvm.staticLocs frame_1_statics s) 0 0 → Post tb e args s (.returned v) u) :
    ArmFor flags0 classFile x code maxLocals ret World_1 tables_1 room_1 Calls_1 rest_1 Pre_1 Post := by
  intro l hfl _ _ p e ha hc hk s m args below hf hA hF happ hP
  obtain ⟨hcalls, hrest, hpre⟩ := hP
  obtain ⟨-, -, -, hnamed, -, -, -, hat⟩ := (Spec.applies_iff hf).mp happ
  obtain ⟨hg, hn⟩ := and_e (Cond.before_iff.mp (show (Jvm.Cond.and given_1 narrow_1).before args s = true from hpre))
  obtain ⟨ga1, gb1⟩ := and_e hg
  obtain ⟨w0, rfl⟩ : ∃ w0 : Value, args = #[w0] := by
    have hs : args.size = 1 := by simpa [Cond.value, given_1] using ga1
    obtain ⟨L⟩ := args
    match L, hs with
    | [w0], _ => exact ⟨w0, rfl⟩
  have hw := fun d (hd : d ∈ tables_1) => atoms_spec (ws := Jvm.Cond.code x code maxLocals ret :: tables_1) hat d (List.mem_cons_of_mem _ hd)
  have hfit : Fit s := fun {y c} hc i hi => by
    obtain ⟨ha, rfl⟩ := Array.getElem?_eq_some_iff.mp hc
    have q := List.all_eq_true.mp ((Array.all_eq_true_iff_forall_mem.mp hF) _ (Array.getElem_mem ha)) i (List.mem_range.mpr hi)
    simpa [Array.getElem?_eq_getElem hi] using q
  obtain ⟨i0, ei0⟩ := is_v gb1
  obtain rfl : w0 = (.int i0) := Option.some.inj ei0
  obtain ⟨y1, z1⟩ := and_e hn
  obtain ⟨y2, z2⟩ := and_e z1
  obtain ⟨y3, z3⟩ := and_e z2
  obtain ⟨w_OUTSIDE, ev_w_OUTSIDE⟩ := exa_v y1
  have S_w_OUTSIDE := Sta.start ev_w_OUTSIDE (Or.inr ⟨(hw _ (List.mem_of_getElem? (i := 2) rfl)), (hw _ (List.mem_of_getElem? (i := 5) rfl))⟩)
  have E_w_OUTSIDE := Exa.start ev_w_OUTSIDE y1
  obtain ⟨w_INSIDE, ev_w_INSIDE⟩ := exa_v y2
  have S_w_INSIDE := Sta.start ev_w_INSIDE (Or.inr ⟨(hw _ (List.mem_of_getElem? (i := 2) rfl)), (hw _ (List.mem_of_getElem? (i := 7) rfl))⟩)
  have E_w_INSIDE := Exa.start ev_w_INSIDE y2
  have F_ordinal_w_OUTSIDE := Fld.start ((fld_at ev_w_OUTSIDE).symm.trans (eqI_v y3))
  have F_ordinal_w_INSIDE := Fld.start ((fld_at ev_w_INSIDE).symm.trans (eqI_v z3))
  have n_OUTSIDE_INSIDE : w_OUTSIDE ≠ w_INSIDE := Fld.ne F_ordinal_w_OUTSIDE F_ordinal_w_INSIDE (fun q => absurd (Value.int.inj q) (by decide))
  have n_INSIDE_OUTSIDE : w_INSIDE ≠ w_OUTSIDE := Fld.ne F_ordinal_w_INSIDE F_ordinal_w_OUTSIDE (fun q => absurd (Value.int.inj q) (by decide))
  have W : Wd s w_OUTSIDE w_INSIDE := ⟨S_w_OUTSIDE, E_w_OUTSIDE, S_w_INSIDE, E_w_INSIDE, F_ordinal_w_OUTSIDE, F_ordinal_w_INSIDE⟩
  have hpl : fn0 i0 w_OUTSIDE w_INSIDE = 1 := plain i0 w_OUTSIDE w_INSIDE n_OUTSIDE_INSIDE n_INSIDE_OUTSIDE
  obtain ⟨n, o, h1, h2, h3, v, L, rfl, ⟨hv, N, -⟩, hq⟩ := rm0 l s _ hw tables_1 i0 w_OUTSIDE w_INSIDE s.heap s.heap.size (Old.start s) W p e ha hc hk s m _ below hf ((Spec.applies_iff_loose hf).mp happ).1 ⟨rfl, State.Warmed39.refl s, rfl⟩ trivial
  rw [hpl] at hv
  subst hv
  refine ⟨n, _, h1, h2, h3, hpost _ _ _ _ _ _ ⟨Cond.after_iff.mpr rfl, Cond.after_iff.mpr (eq_i res_at (Term.int_eval (1)) rfl), trivial⟩ ⟨hq.1, hq.2.1, (hq.2.2.sift fun y hy => Or.inr (N y hy)).mono (by decide) (by decide)⟩⟩
theorem main_1_1 : Claimed_1_1 := comes_1 fun _ _ _ _ _ _ h hF => ⟨h.1, hF⟩
theorem main_1_2 : Claimed_1_2 := comes_1 fun _ _ _ _ _ _ h hF => ⟨h.2.1, hF⟩
end Jvm.Pilot.@@N@@
/-! WITNESS -/
namespace Jvm.Pilot.@@N@@
open Jvm Jvm.ClassFile Sem Op Lib Jvm.Free Jvm.Stand Jvm.Pilot.@@N@@.Jvm.D
/-! MADE BY PROGRAM (witnessworld.py) out of the Statement's table words and the real class files: 10 classes; the members and pool entries that the words name. The judged class is class 1, her method 1. -/
namespace start1
open Jvm.ClassFile
def u (s : String) : CpInfo := .utf8 (stringToUtf16 s)
/-- a pool by its gaps: so many unusable entries, then the entry; so many at the end -/
def gap : Nat → List CpInfo → List CpInfo
  | 0, r => r
  | n + 1, r => .unusable :: gap n r
def poolList (es : List (Nat × CpInfo)) (last : Nat) : List CpInfo := es.foldr (fun e r => gap e.1 (e.2 :: r)) (gap last [])
def pool (es : List (Nat × CpInfo)) (last : Nat) : Array CpInfo := ⟨poolList es last⟩
def fileOf (pool : Array CpInfo) (this : Nat) (attrs : Array Attribute := #[]) (ms : Array MethodInfo := #[]) (fl : Nat := 33) (sup : Nat := 0) (ifs : Array Nat := #[]) (fds : Array FieldInfo := #[]) : ClassFile where
  minorVersion := 0
  majorVersion := 65
  constantPool := pool
  accessFlags := fl
  thisClass := this
  superClass := sup
  interfaces := ifs
  fields := fds
  methods := ms
  attributes := attrs
def plain (name : String) (sup : Option ClassId) : Class where
  name := name
  kind := .ordinary
  loader := none
  accessFlags := 33
  super := sup
  interfaces := #[]
  cf := none
  fields := #[]
  methods := #[]
  instanceTypes := #[]
  staticTypes := #[]
  resolved := #[]
  callSites := []
  init := .initialized
  statics := none
  mirror := none

def pool0 : Array CpInfo := pool [(5, u "<init>"), (0, u "()V"), (1, .class_ 10), (1, u "java/lang/Object")] 113

def k0m0 : Method := { name := "<init>", desc := "()V", sig := { parameters := [], returnType := none }, accessFlags := 1, code := none }
/-- java/lang/Object -/
def k0 : Class := { plain "java/lang/Object" none with
  accessFlags := 33
  interfaces := #[]
  cf := some (fileOf pool0 8 #[] #[{ accessFlags := 1, nameIndex := 5, descriptorIndex := 6, attributes := #[] }] 33 0 #[] #[])
  fields := #[]
  methods := #[k0m0]
  instanceTypes := #[]
  staticTypes := #[]
  resolved := Array.replicate 124 none
  statics := none }

def pool1 : Array CpInfo := pool [(2, .class_ 4), (1, u "java/lang/Object"), (0, u "<init>"), (0, u "()V"), (0, .methodref 8 9), (0, .class_ 10), (0, .nameAndType 11 12), (0, u "com/example/talaria/talaria/engine/TrustSide"), (0, u "of"), (0, u "(Z)Lcom/example/talaria/talaria/engine/TrustSide;"), (0, .fieldref 8 14), (0, .nameAndType 15 16), (0, u "INSIDE"), (0, u "Lcom/example/talaria/talaria/engine/TrustSide;"), (0, .fieldref 8 18), (0, .nameAndType 19 16), (0, u "OUTSIDE"), (0, .class_ 21), (0, u "com/example/talaria/talaria/engine/TrustSideOfPinLaw"), (2, u "law"), (0, u "(I)Z")] 3

def k1m0 : Method := { name := "<init>", desc := "()V", sig := { parameters := [], returnType := none }, accessFlags := 1, code := none }
def k1c1 : Code := { maxStack := 2, maxLocals := 6, code := code, exceptionTable := #[], attributes := #[] }
def k1m1 : Method := { name := "law", desc := "(I)Z", sig := { parameters := [.int], returnType := some .boolean }, accessFlags := 9, code := some k1c1 }
/-- com/example/talaria/talaria/engine/TrustSideOfPinLaw -/
def k1 : Class := { plain "com/example/talaria/talaria/engine/TrustSideOfPinLaw" (some 0) with
  accessFlags := 49
  interfaces := #[]
  cf := some (fileOf pool1 20 #[] #[{ accessFlags := 1, nameIndex := 5, descriptorIndex := 6, attributes := #[] }, { accessFlags := 9, nameIndex := 24, descriptorIndex := 25, attributes := #[] }] 49 2 #[] #[])
  fields := #[]
  methods := #[k1m0, k1m1]
  instanceTypes := #[]
  staticTypes := #[]
  resolved := Array.replicate 29 none
  statics := none }

def pool2 : Array CpInfo := pool [(1, .class_ 2), (0, u "java/lang/constant/Constable"), (0, .class_ 4), (0, u "java/lang/Object")] 6

/-- java/lang/constant/Constable -/
def k2 : Class := { plain "java/lang/constant/Constable" (some 0) with
  accessFlags := 1537
  interfaces := #[]
  cf := some (fileOf pool2 1 #[] #[] 1537 3 #[] #[])
  fields := #[]
  methods := #[]
  instanceTypes := #[]
  staticTypes := #[]
  resolved := Array.replicate 11 none
  statics := none }

def pool3 : Array CpInfo := pool [(1, .class_ 2), (0, u "java/lang/Comparable"), (0, .class_ 4), (0, u "java/lang/Object")] 7

/-- java/lang/Comparable -/
def k3 : Class := { plain "java/lang/Comparable" (some 0) with
  accessFlags := 1537
  interfaces := #[]
  cf := some (fileOf pool3 1 #[] #[] 1537 3 #[] #[])
  fields := #[]
  methods := #[]
  instanceTypes := #[]
  staticTypes := #[]
  resolved := Array.replicate 12 none
  statics := none }

def pool4 : Array CpInfo := pool [(1, .class_ 2), (0, u "java/io/Serializable"), (0, .class_ 4), (0, u "java/lang/Object")] 2

/-- java/io/Serializable -/
def k4 : Class := { plain "java/io/Serializable" (some 0) with
  accessFlags := 1537
  interfaces := #[]
  cf := some (fileOf pool4 1 #[] #[] 1537 3 #[] #[])
  fields := #[]
  methods := #[]
  instanceTypes := #[]
  staticTypes := #[]
  resolved := Array.replicate 7 none
  statics := none }

def pool5 : Array CpInfo := pool [(2, .class_ 4), (1, u "java/lang/Enum"), (0, u "name"), (0, u "Ljava/lang/String;"), (2, u "ordinal"), (0, u "I"), (1, .class_ 14), (1, u "java/lang/Object"), (4, u "hash"), (86, .class_ 108), (1, u "java/lang/Enum$EnumDesc"), (2, .class_ 112), (0, u "java/lang/constant/Constable"), (0, .class_ 114), (0, u "java/lang/Comparable"), (0, .class_ 116), (0, u "java/io/Serializable")] 87

/-- java/lang/Enum -/
def k5 : Class := { plain "java/lang/Enum" (some 0) with
  accessFlags := 1057
  interfaces := #[2, 3, 4]
  cf := some (fileOf pool5 2 #[.nestMembers #[106]] #[] 1057 12 #[111, 113, 115] #[{ accessFlags := 18, nameIndex := 5, descriptorIndex := 6, attributes := #[] }, { accessFlags := 18, nameIndex := 9, descriptorIndex := 10, attributes := #[] }, { accessFlags := 2, nameIndex := 19, descriptorIndex := 10, attributes := #[] }])
  fields := #[{ name := "name", type := (.object "java/lang/String"), accessFlags := 18, slot := 0, constantValue := 0 }, { name := "ordinal", type := .int, accessFlags := 18, slot := 1, constantValue := 0 }, { name := "hash", type := .int, accessFlags := 2, slot := 2, constantValue := 0 }]
  methods := #[]
  instanceTypes := #[(.object "java/lang/String"), .int, .int]
  staticTypes := #[]
  resolved := Array.replicate 204 none
  statics := none }

def pool6 : Array CpInfo := pool [(1, .class_ 2), (0, u "com/example/talaria/talaria/engine/TrustSide"), (0, .fieldref 1 4), (0, .nameAndType 5 6), (0, u "INSIDE"), (0, u "Lcom/example/talaria/talaria/engine/TrustSide;"), (0, .fieldref 1 8), (0, .nameAndType 9 6), (0, u "OUTSIDE"), (2, u "$VALUES"), (0, u "[Lcom/example/talaria/talaria/engine/TrustSide;"), (6, .class_ 22), (1, u "java/lang/Enum"), (8, u "areaParts"), (0, u "Ljava/util/List;"), (2, u "of"), (0, u "(Z)Lcom/example/talaria/talaria/engine/TrustSide;")] 50

def k6c0 : Code := { maxStack := 1, maxLocals := 1, code := prog_13_method_4_code, exceptionTable := #[], attributes := #[] }
def k6m0 : Method := { name := "of", desc := "(Z)Lcom/example/talaria/talaria/engine/TrustSide;", sig := { parameters := [.boolean], returnType := some (.object "com/example/talaria/talaria/engine/TrustSide") }, accessFlags := 8, code := some k6c0 }
/-- com/example/talaria/talaria/engine/TrustSide -/
def k6 : Class := { plain "com/example/talaria/talaria/engine/TrustSide" (some 5) with
  accessFlags := 16432
  interfaces := #[]
  cf := some (fileOf pool6 1 #[] #[{ accessFlags := 8, nameIndex := 35, descriptorIndex := 36, attributes := #[] }] 16432 20 #[] #[{ accessFlags := 16409, nameIndex := 5, descriptorIndex := 6, attributes := #[] }, { accessFlags := 16409, nameIndex := 9, descriptorIndex := 6, attributes := #[] }, { accessFlags := 18, nameIndex := 31, descriptorIndex := 32, attributes := #[] }, { accessFlags := 4122, nameIndex := 12, descriptorIndex := 13, attributes := #[] }])
  fields := #[{ name := "INSIDE", type := (.object "com/example/talaria/talaria/engine/TrustSide"), accessFlags := 16409, slot := 0, constantValue := 0 }, { name := "OUTSIDE", type := (.object "com/example/talaria/talaria/engine/TrustSide"), accessFlags := 16409, slot := 1, constantValue := 0 }, { name := "areaParts", type := (.object "java/util/List"), accessFlags := 18, slot := 3, constantValue := 0 }, { name := "$VALUES", type := (.array (.object "com/example/talaria/talaria/engine/TrustSide")), accessFlags := 4122, slot := 2, constantValue := 0 }]
  methods := #[k6m0]
  instanceTypes := #[(.object "java/lang/String"), .int, .int, (.object "java/util/List")]
  staticTypes := #[(.object "com/example/talaria/talaria/engine/TrustSide"), (.object "com/example/talaria/talaria/engine/TrustSide"), (.array (.object "com/example/talaria/talaria/engine/TrustSide"))]
  resolved := Array.replicate 87 none
  statics := some 0 }

def pool7 : Array CpInfo := pool [(1, u "java/lang/Cloneable"), (0, .class_ 1), (0, u "java/lang/Object"), (0, .class_ 3)] 3

/-- java/lang/Cloneable -/
def k7 : Class := { plain "java/lang/Cloneable" (some 0) with
  accessFlags := 1537
  interfaces := #[]
  cf := some (fileOf pool7 2 #[] #[] 1537 4 #[] #[])
  fields := #[]
  methods := #[]
  instanceTypes := #[]
  staticTypes := #[]
  resolved := Array.replicate 8 none
  statics := none }

/-- the primitive byte -/
def k8 : Class := { plain "byte" none with kind := .primitive 'B', accessFlags := 0x411 }
/-- [B -/
def k9 : Class := { plain "[B" (some 0) with kind := .array 8 .byte, interfaces := #[7, 4], accessFlags := 1041 }

def heap : Heap := #[{ cls := 6, slots := #[.ref 2, .ref 1, .null], vm := .statics 6 },
  { cls := 6, slots := #[.null, .int 1, .int 0, .null], vm := .none },
  { cls := 6, slots := #[.null, .int 0, .int 0, .null], vm := .none }]
def classes : Array Class := #[k0, k1, k2, k3, k4, k5, k6, k7, k8, k9]
def interned : List (Array UInt16 × Addr) := []
def slotsUsed : Nat := 11
def theMethod : MethodId := ⟨1, 1⟩
def args0 : Array Value := #[.int 5]
def aboutOver (below : List Frame) : State where
  vm := { classes := classes, interned := interned.toArray }
  heap := heap
  slotsUsed := slotsUsed
  threads := #[{ frames := .invoking theMethod args0 :: below }]
def below0 : List Frame := [.native { method := ⟨0, 0⟩, args := #[] }]
def about1 : State := aboutOver below0
def p0 : Program := .bare "" "" ""
def e0 : Env := launch0.env 0 0 0
theorem w_frames : about1.frames = Frame.invoking theMethod args0 :: below0 := rfl
set_option maxRecDepth 65536 in
theorem w_args : argsFit about1.vm theMethod args0 = true := by decide +kernel
set_option maxRecDepth 65536 in
theorem w_heap : heapFits about1 = true := by decide +kernel
set_option maxRecDepth 65536 in
theorem w_runnable : about1.curStatus? = some .runnable := by decide +kernel
set_option maxRecDepth 65536 in
theorem w_alone : about1.alone = true := by decide +kernel
set_option maxRecDepth 65536 in
theorem w_named : about1.methodNamed? x = some theMethod := by decide +kernel
set_option maxRecDepth 65536 in
theorem w_hears : about1.hears theMethod below0 = true := by decide +kernel
set_option maxRecDepth 65536 in
theorem w_ripe : about1.ripe theMethod args0 below0 = true := by decide +kernel
theorem w_running : about1.status = .running := rfl
set_option maxRecDepth 65536 in
theorem w_room : about1.hasRoom e0.platform room_1 = true :=
  launch0.hasRoom_least _ room_1 (by decide +kernel) (by decide +kernel) (by decide +kernel) (by decide +kernel) (by decide +kernel) (by decide +kernel)
theorem allAtoms_all (ts : List Jvm.Cond) (a : Array Jvm.Value) (st : Jvm.State) : (allAtoms ts).before a st = ts.all (fun c => c.before a st) := by
  induction ts with
  | nil => rfl
  | cons c t ih =>
    show (Jvm.Cond.and c (allAtoms t)).before a st = _
    rw [Jvm.Cond.before_and, ih, List.all_cons]
def words1 : List Jvm.Cond := Jvm.Cond.code x code maxLocals ret :: tables_1
/-- a 'code' word, met by the world's own term for the bytes: nothing is compared byte by byte -/
theorem code_word {y : MethodName} {bytes : ByteArray} {mx : Nat} {rt : Option FieldType} {a : Array Value} {s : State} {m : MethodId} {meth : Method} {c : Code} (h1 : s.methodNamed? y = some m) (h2 : s.vm.method? m = some meth) (h3 : meth.code = some c) (h4 : c.code = bytes)
    (h5 : (c.maxLocals == mx && c.exceptionTable.isEmpty && decide (c.maxStack ≤ mostOperands) && decide (meth.sig.returnType = rt) && !meth.locks && decide (parseMethodDescriptor y.desc = some meth.sig)) = true) : (Jvm.Cond.code y bytes mx rt).before a s = true := by
  simp only [Bool.and_eq_true, beq_iff_eq, Bool.not_eq_true', decide_eq_true_eq] at h5
  obtain ⟨⟨⟨⟨⟨g1, g2⟩, g3⟩, g4⟩, g5⟩, g6⟩ := h5
  simp [Cond.before, Cond.holds, Cond.value, h1, h2, h3, h4, g1, g2, g3, g4, g5, g6]
def isCode : Jvm.Cond → Bool
  | .code _ _ _ _ => true
  | _ => false
theorem all_split {L : List Jvm.Cond} {P : Jvm.Cond → Bool} (h1 : L.all (fun c => isCode c || P c) = true) (h2 : ∀ c ∈ L.filter isCode, P c = true) : L.all P = true := by
  refine List.all_eq_true.mpr fun c hc => ?_
  have h := List.all_eq_true.mp h1 c hc
  rcases Bool.eq_false_or_eq_true (isCode c) with hi | hi
  · exact h2 c (List.mem_filter.mpr ⟨hc, hi⟩)
  · simpa [hi] using h
set_option maxRecDepth 65536 in
theorem w_c0 : (Jvm.Cond.code x code maxLocals ret).before args0 about1 = true := code_word (m := ⟨1, 1⟩) (meth := k1m1) (c := k1c1) (by decide +kernel) rfl rfl rfl (by decide +kernel)
set_option maxRecDepth 65536 in
theorem w_c1 : (Jvm.Cond.code ({ cls := "com/example/talaria/talaria/engine/TrustSide", name := "of", desc := "(Z)Lcom/example/talaria/talaria/engine/TrustSide;" } : Jvm.MethodName) prog_13_method_4_code (1 : Nat) (Option.some (Jvm.ClassFile.FieldType.object "com/example/talaria/talaria/engine/TrustSide"))).before args0 about1 = true := code_word (m := ⟨6, 0⟩) (meth := k6m0) (c := k6c0) (by decide +kernel) rfl rfl rfl (by decide +kernel)
def codes1 : List Jvm.Cond := [Jvm.Cond.code x code maxLocals ret, Jvm.Cond.code ({ cls := "com/example/talaria/talaria/engine/TrustSide", name := "of", desc := "(Z)Lcom/example/talaria/talaria/engine/TrustSide;" } : Jvm.MethodName) prog_13_method_4_code (1 : Nat) (Option.some (Jvm.ClassFile.FieldType.object "com/example/talaria/talaria/engine/TrustSide"))]
set_option maxRecDepth 65536 in
theorem codes_eq : words1.filter isCode = codes1 := rfl
theorem w_codes : ∀ c ∈ words1.filter isCode, c.before args0 about1 = true := by
  rw [codes_eq]
  intro c hc
  simp only [codes1, List.mem_cons, List.not_mem_nil, or_false] at hc
  rcases hc with rfl | rfl
  · exact w_c0
  · exact w_c1
set_option maxRecDepth 65536 in
theorem w_t1 : words1.all (fun c => isCode c || c.before args0 about1) = true := by decide +kernel
theorem w_tables : (allAtoms (Jvm.Cond.code x code maxLocals ret :: tables_1)).before args0 about1 = true := by
  rw [allAtoms_all]
  show words1.all (fun c => c.before args0 about1) = true
  refine all_split ?_ w_codes
  rw [w_t1]
set_option maxRecDepth 65536 in
theorem w_case : (Jvm.Cond.and given_1 narrow_1).before args0 about1 = true := by decide +kernel
theorem w_applies : (headSpec (Jvm.Cond.code x code maxLocals ret :: tables_1) room_1).applies x e0.platform about1 = true :=
  (Spec.applies_iff w_frames).mpr ⟨w_running, w_runnable, w_alone, w_named, w_hears, w_ripe, w_room, w_tables⟩
theorem atStart : AtStart classFile x code maxLocals ret World_1 tables_1 room_1 Calls_1 rest_1 Pre_1 launch0 p0 e0 about1 theMethod args0 below0 :=
  ⟨lists_1, trivial, launch0.admits_env _ _ _, launch0.least_env, fairChoices_fair.cas, fairChoices_fair.clock, w_frames, w_args, w_heap, w_applies, trivial, trivial, w_case⟩
end start1
theorem witness_1 : WitnessClaimed_1 := ⟨start1.p0, start1.e0, start1.about1, start1.theMethod, start1.args0, start1.below0, start1.atStart⟩
end Jvm.Pilot.@@N@@
