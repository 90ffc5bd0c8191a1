import JvmDerived
import JvmDerived.Pilot.@@N@@Statement
import JvmDerived.Pilot.@@N@@Code
set_option linter.unusedVariables false
set_option linter.unusedSimpArgs false
namespace Jvm.RoadKit
open Sem ClassFile Op Lib Jvm.Stand Jvm.Free Jvm.LawKit
section New
variable {p : Program} {l : Launch} {e : Env} {R : Room} {s : State} {m : MethodId} {args : Array Value} {below : List Frame} {meth : Method} {c : Code} {T : State} {locs : List Loc} {cells slots : Nat}
theorem retI (X : Stand p l e R s m args below meth c T locs cells slots) (hx : p.tables.exec = Jvm.exec) {pc : Nat} {Ls : Array Slot} {z : Int32} {rest : List Value} (hret : meth.sig.returnType = some .int) (hd : decode c.code pc = .ok (.ireturn, 1)) {fs : List Frame}
    (hl : ∀ (f : JFrame) (acts : List Action), f.method = m → f.locked = none → f.entered = [] → (doReturn e (T.setTop f) acts (some (.int z))).1 = T.setFrames fs) : Steps p.tables e below (T.setTop (mkF m pc Ls (.int z :: rest))) (T.setFrames fs) := by
  have hm' : T.vm.method? m = some meth := X.method'
  have hn : narrow .int (.int z) = .int z := rfl
  show Steps p.tables e below (T.setTop { method := m, pc := pc, locals := Ls, stack := _ :: rest, locked := none }) _
  jvm_step X.here [X.here.top, hx, hd, hm', hret, hn]
  first | (intro acts; rw [hl _ acts rfl rfl rfl]) | rw [hl _ _ rfl rfl rfl]
  exact Steps.refl _
/-- from here the run comes to an end of which Po says something -/
def Gl (p : Program) (e : Env) (below : List Frame) (Po : State → Outcome → Prop) (T : State) (g : JFrame) : Prop := ∃ s₂ o, Steps p.tables e below (T.setTop g) s₂ ∧ s₂.status = .running ∧ Ended s₂ below o ∧ Po s₂ o
def Pos (C S : Nat) (Q : Option Value → Heap → List Loc → Prop) (s : State) (U : State) (o : Outcome) : Prop := ∃ v L, o = .returned v ∧ Q v U.heap L ∧ FrameEnd s o U L C S
theorem Gl.by {Po : State → Outcome → Prop} {T' : State} {g g' : JFrame} (st : ∀ t, Steps p.tables e below (T'.setTop g') t → Steps p.tables e below (T.setTop g) t) (h : Gl p e below Po T' g') : Gl p e below Po T g := by
  obtain ⟨a, o, k, r⟩ := h
  exact ⟨a, o, st _ k, r⟩
abbrev vr (a : Addr) : Slot := .val (.ref a)
abbrev vi (a : Int32) : Slot := .val (.int a)
abbrev vj (a : Int64) : Slot := .val (.long a)
theorem gb {Po : State → Outcome → Prop} {T' : State} {g : JFrame} (g' : JFrame) (st : ∀ t, Steps p.tables e below (T'.setTop g') t → Steps p.tables e below (T.setTop g) t) (h : Gl p e below Po T' g') : Gl p e below Po T g := Gl.by st h
theorem Gl.cast {Po : State → Outcome → Prop} {g g' : JFrame} (q : g = g') (h : Gl p e below Po T g') : Gl p e below Po T g := q ▸ h
theorem Gl.outN (X : Stand p l e R s m args below meth c T locs cells slots) (hx : p.tables.exec = Jvm.exec) (hk : meth.locks = false) {pc : Nat} {Ls : Array Slot} {z : Int32} {t : FieldType} {rest : List Value} (hret : meth.sig.returnType = some t) (ht : t = .boolean ∨ t = .byte ∨ t = .char ∨ t = .short)
    (hd : decode c.code pc = .ok (.ireturn, 1)) {C S : Nat} {Q : Option Value → Heap → List Loc → Prop} (hQ : Q (some (.int (nar t z))) T.heap locs) (hc : cells ≤ C) (hs : slots ≤ S) : Gl p e below (Pos C S Q s) T (mkF m pc Ls (.int z :: rest)) := by
  obtain ⟨fs, hr, hrun, hended, hW, hsame⟩ := X.leave (v := some (.int (nar t z))) (fun h => by rw [hret] at h; cases h) hk
  exact ⟨_, _, retN X hx hret ht hd hr, hrun, hended, _, _, rfl, hQ, ⟨_, rfl⟩, hW, hsame.mono hc hs⟩
theorem Gl.outI (X : Stand p l e R s m args below meth c T locs cells slots) (hx : p.tables.exec = Jvm.exec) (hk : meth.locks = false) {pc : Nat} {Ls : Array Slot} {z : Int32} {rest : List Value} (hret : meth.sig.returnType = some .int)
    (hd : decode c.code pc = .ok (.ireturn, 1)) {C S : Nat} {Q : Option Value → Heap → List Loc → Prop} (hQ : Q (some (.int z)) T.heap locs) (hc : cells ≤ C) (hs : slots ≤ S) : Gl p e below (Pos C S Q s) T (mkF m pc Ls (.int z :: rest)) := by
  obtain ⟨fs, hr, hrun, hended, hW, hsame⟩ := X.leave (v := some (.int z)) (fun h => by rw [hret] at h; cases h) hk
  exact ⟨_, _, retI X hx hret hd hr, hrun, hended, _, _, rfl, hQ, ⟨_, rfl⟩, hW, hsame.mono hc hs⟩
theorem Gl.outJ (X : Stand p l e R s m args below meth c T locs cells slots) (hx : p.tables.exec = Jvm.exec) (hk : meth.locks = false) {pc : Nat} {Ls : Array Slot} {z : Int64} {rest : List Value} (hret : meth.sig.returnType = some .long)
    (hd : decode c.code pc = .ok (.lreturn, 1)) {C S : Nat} {Q : Option Value → Heap → List Loc → Prop} (hQ : Q (some (.long z)) T.heap locs) (hc : cells ≤ C) (hs : slots ≤ S) : Gl p e below (Pos C S Q s) T (mkF m pc Ls (.long z :: rest)) := by
  obtain ⟨fs, hr, hrun, hended, hW, hsame⟩ := X.leave (v := some (.long z)) (fun h => by rw [hret] at h; cases h) hk
  exact ⟨_, _, retOut X hx hret rfl (Or.inr (Or.inl ⟨rfl, rfl, _, rfl⟩)) hd hr, hrun, hended, _, _, rfl, hQ, ⟨_, rfl⟩, hW, hsame.mono hc hs⟩
theorem Gl.outD (X : Stand p l e R s m args below meth c T locs cells slots) (hx : p.tables.exec = Jvm.exec) (hk : meth.locks = false) {pc : Nat} {Ls : Array Slot} {z : UInt64} {rest : List Value} (hret : meth.sig.returnType = some .double)
    (hd : decode c.code pc = .ok (.dreturn, 1)) {C S : Nat} {Q : Option Value → Heap → List Loc → Prop} (hQ : Q (some (.double z)) T.heap locs) (hc : cells ≤ C) (hs : slots ≤ S) : Gl p e below (Pos C S Q s) T (mkF m pc Ls (.double z :: rest)) := by
  obtain ⟨fs, hr, hrun, hended, hW, hsame⟩ := X.leave (v := some (.double z)) (fun h => by rw [hret] at h; cases h) hk
  exact ⟨_, _, retOut X hx hret rfl (Or.inr (Or.inr (Or.inl ⟨rfl, rfl, _, rfl⟩))) hd hr, hrun, hended, _, _, rfl, hQ, ⟨_, rfl⟩, hW, hsame.mono hc hs⟩
theorem Gl.outA (X : Stand p l e R s m args below meth c T locs cells slots) (hx : p.tables.exec = Jvm.exec) (hk : meth.locks = false) {pc : Nat} {Ls : Array Slot} {w : Value} {t : FieldType} {rest : List Value} (hret : meth.sig.returnType = some t) (ht : t.isReference = true) (hw : w.isRef = true)
    (hd : decode c.code pc = .ok (.areturn, 1)) {C S : Nat} {Q : Option Value → Heap → List Loc → Prop} (hQ : Q (some w) T.heap locs) (hc : cells ≤ C) (hs : slots ≤ S) : Gl p e below (Pos C S Q s) T (mkF m pc Ls (w :: rest)) := by
  obtain ⟨fs, hr, hrun, hended, hW, hsame⟩ := X.leave (v := some w) (fun h => by rw [hret] at h; cases h) hk
  exact ⟨_, _, retOut X hx hret (by rcases ref_cases hw with rfl | ⟨a, rfl⟩ <;> cases t <;> first | rfl | (cases ht; done)) (Or.inr (Or.inr (Or.inr (Or.inr ⟨rfl, ht, hw⟩)))) hd hr, hrun, hended, _, _, rfl, hQ, ⟨_, rfl⟩, hW, hsame.mono hc hs⟩
theorem Gl.outV (X : Stand p l e R s m args below meth c T locs cells slots) (hx : p.tables.exec = Jvm.exec) (hk : meth.locks = false) {pc : Nat} {Ls : Array Slot} (hret : meth.sig.returnType = none)
    (hd : decode c.code pc = .ok (.return_, 1)) {C S : Nat} {Q : Option Value → Heap → List Loc → Prop} (hQ : Q none T.heap locs) (hc : cells ≤ C) (hs : slots ≤ S) : Gl p e below (Pos C S Q s) T (mkF m pc Ls []) := by
  obtain ⟨fs, hr, hrun, hended, hW, hsame⟩ := X.leave (v := none) (fun _ => rfl) hk
  exact ⟨_, _, X.returnOut hx hret hd hr, hrun, hended, _, _, rfl, hQ, ⟨_, rfl⟩, hW, hsame.mono hc hs⟩
def PosW (C S : Nat) (Q : Option Value → Heap → List Loc → Prop) (s : State) (U : State) (o : Outcome) : Prop := ∃ v L, o = .returned v ∧ Q v U.heap L ∧ ReturnedEndW s o U L C S
theorem ReturnedEndW.mono {s t : State} {o : Outcome} {L : List Loc} {k n k' n' : Nat} (h : ReturnedEndW s o t L k n) (hk : k ≤ k') (hn : n ≤ n') : ReturnedEndW s o t L k' n' := ⟨h.1, h.2.1, h.2.2.1, h.2.2.2.mono hk hn⟩
section Wide
variable {vm₁ : Vm} {n₁ : Nat}
theorem Gl.outNW (X : Stand p l e R (s.setVm vm₁) m args below meth c T locs cells slots) (hS : s.Since vm₁ n₁) (hn : n₁ ≤ T.heap.size) (hx : p.tables.exec = Jvm.exec) (hk : meth.locks = false) {pc : Nat} {Ls : Array Slot} {z : Int32} {t : FieldType} {rest : List Value} (hret : meth.sig.returnType = some t) (ht : t = .boolean ∨ t = .byte ∨ t = .char ∨ t = .short)
    (hd : decode c.code pc = .ok (.ireturn, 1)) {C S : Nat} {Q : Option Value → Heap → List Loc → Prop} (hQ : Q (some (.int (nar t z))) T.heap locs) (hc : cells ≤ C) (hs : slots ≤ S) : Gl p e below (PosW C S Q s) T (mkF m pc Ls (.int z :: rest)) := by
  obtain ⟨fs, hr, hrun, hended, hW⟩ := X.leaveW hS hn (v := some (.int (nar t z))) (fun h => by rw [hret] at h; cases h) hk
  exact ⟨_, _, retN X hx hret ht hd hr, hrun, hended, _, _, rfl, hQ, ReturnedEndW.mono hW hc hs⟩
theorem Gl.outIW (X : Stand p l e R (s.setVm vm₁) m args below meth c T locs cells slots) (hS : s.Since vm₁ n₁) (hn : n₁ ≤ T.heap.size) (hx : p.tables.exec = Jvm.exec) (hk : meth.locks = false) {pc : Nat} {Ls : Array Slot} {z : Int32} {rest : List Value} (hret : meth.sig.returnType = some .int)
    (hd : decode c.code pc = .ok (.ireturn, 1)) {C S : Nat} {Q : Option Value → Heap → List Loc → Prop} (hQ : Q (some (.int z)) T.heap locs) (hc : cells ≤ C) (hs : slots ≤ S) : Gl p e below (PosW C S Q s) T (mkF m pc Ls (.int z :: rest)) := by
  obtain ⟨fs, hr, hrun, hended, hW⟩ := X.leaveW hS hn (v := some (.int z)) (fun h => by rw [hret] at h; cases h) hk
  exact ⟨_, _, retI X hx hret hd hr, hrun, hended, _, _, rfl, hQ, ReturnedEndW.mono hW hc hs⟩
theorem Gl.outAW (X : Stand p l e R (s.setVm vm₁) m args below meth c T locs cells slots) (hS : s.Since vm₁ n₁) (hn : n₁ ≤ T.heap.size) (hx : p.tables.exec = Jvm.exec) (hk : meth.locks = false) {pc : Nat} {Ls : Array Slot} {w : Value} {t : FieldType} {rest : List Value} (hret : meth.sig.returnType = some t) (ht : t.isReference = true) (hw : w.isRef = true)
    (hd : decode c.code pc = .ok (.areturn, 1)) {C S : Nat} {Q : Option Value → Heap → List Loc → Prop} (hQ : Q (some w) T.heap locs) (hc : cells ≤ C) (hs : slots ≤ S) : Gl p e below (PosW C S Q s) T (mkF m pc Ls (w :: rest)) := by
  obtain ⟨fs, hr, hrun, hended, hW⟩ := X.leaveW hS hn (v := some w) (fun h => by rw [hret] at h; cases h) hk
  exact ⟨_, _, retOut X hx hret (by rcases ref_cases hw with rfl | ⟨a, rfl⟩ <;> cases t <;> first | rfl | (cases ht; done)) (Or.inr (Or.inr (Or.inr (Or.inr ⟨rfl, ht, hw⟩)))) hd hr, hrun, hended, _, _, rfl, hQ, ReturnedEndW.mono hW hc hs⟩
theorem Gl.outVW (X : Stand p l e R (s.setVm vm₁) m args below meth c T locs cells slots) (hS : s.Since vm₁ n₁) (hn : n₁ ≤ T.heap.size) (hx : p.tables.exec = Jvm.exec) (hk : meth.locks = false) {pc : Nat} {Ls : Array Slot} (hret : meth.sig.returnType = none)
    (hd : decode c.code pc = .ok (.return_, 1)) {C S : Nat} {Q : Option Value → Heap → List Loc → Prop} (hQ : Q none T.heap locs) (hc : cells ≤ C) (hs : slots ≤ S) : Gl p e below (PosW C S Q s) T (mkF m pc Ls []) := by
  obtain ⟨fs, hr, hrun, hended, hW⟩ := X.leaveW hS hn (v := none) (fun _ => rfl) hk
  exact ⟨_, _, X.returnOut hx hret hd hr, hrun, hended, _, _, rfl, hQ, ReturnedEndW.mono hW hc hs⟩
end Wide
theorem selPriv {s : State} {args : Array Value} {y : MethodName} {n : Nat} (wi : (Cond.instantiable y.cls n).before args s = true) (hp : s.PrivateAt y) (hi : (Cond.instanceMethod y).before args s = true) (hy : y.cls ≠ "java/lang/invoke/MethodHandle" ∧ y.cls ≠ "java/lang/invoke/VarHandle") : (Cond.selects y.cls y y).before args s = true := by
  obtain ⟨c, k, h1, h2, h3, h4, -⟩ := Cond.instantiable_spec wi
  exact selects_self_of_private h1 h2 (by simp only [Bool.or_eq_false_iff] at h4; exact h4.1) hp hi hy
theorem eqI_v {args : Array Value} {first s : State} {o : Option Outcome} {idx : List Nat} {t : Term} {k : Int32} (h : (Cond.eq t (.int k)).value args first o s idx = some true) : t.eval args first o idx s = some (.int k) := by
  simp only [Cond.value, Term.eval] at h
  cases ht : t.eval args first o idx s with
  | none => simp [ht] at h
  | some x => cases x <;> simp [ht] at h ⊢; exact h
end New
end Jvm.RoadKit
namespace Jvm.RoadKit
open Sem ClassFile Op Lib Bundle Jvm.Stand Jvm.Free Jvm.LawKit Jvm.Free.SB Jvm.Free.SBG
section HeldX
variable {p : Program} {l : Launch} {e : Env} {R : Room} {s : State} {m : MethodId} {args : Array Value} {below : List Frame} {meth : Method} {c : Code} {T : State} {locs : List Loc} {cells slots : Nat} {Z : State} {a0 : Array Value} {EL : List (String × Nat)} {h : Heap} {vm0 vm₁ : Vm} {n₁ : Nat}
def PosH (Z : State) (EL : List (String × Nat)) (C S : Nat) (Q : Option Value → Heap → List Loc → Prop) (s : State) (U : State) (o : Outcome) : Prop := ∃ v L, o = .returned v ∧ Q v U.heap L ∧ CHr Z EL s.vm s.heap U.vm U.heap ∧ ReturnedEndW s o U L C S
theorem Gl.outVH (X : Stand p l e R (s.setVm vm₁) m args below meth c T locs cells slots) (hS : s.Since vm₁ n₁) (hn : n₁ ≤ T.heap.size) (hx : p.tables.exec = Jvm.exec) (hk : meth.locks = false) {pc : Nat} {Ls : Array Slot} (hret : meth.sig.returnType = none)
    (hd : decode c.code pc = .ok (.return_, 1)) {C S : Nat} {Q : Option Value → Heap → List Loc → Prop} (hQ : Q none T.heap locs) (hC : CHr Z EL s.vm s.heap T.vm T.heap) (hc : cells ≤ C) (hs : slots ≤ S) : Gl p e below (PosH Z EL C S Q s) T (mkF m pc Ls []) := by
  obtain ⟨fs, hr, hrun, hended, hW⟩ := X.leaveW hS hn (v := none) (fun _ => rfl) hk
  exact ⟨_, _, X.returnOut hx hret hd hr, hrun, hended, _, _, rfl, hQ, hC, ReturnedEndW.mono hW hc hs⟩
theorem Gl.outAH (X : Stand p l e R (s.setVm vm₁) m args below meth c T locs cells slots) (hS : s.Since vm₁ n₁) (hn : n₁ ≤ T.heap.size) (hx : p.tables.exec = Jvm.exec) (hk : meth.locks = false) {pc : Nat} {Ls : Array Slot} {w : Value} {t : FieldType} {rest : List Value} (hret : meth.sig.returnType = some t) (ht : t.isReference = true) (hw : w.isRef = true)
    (hd : decode c.code pc = .ok (.areturn, 1)) {C S : Nat} {Q : Option Value → Heap → List Loc → Prop} (hQ : Q (some w) T.heap locs) (hC : CHr Z EL s.vm s.heap T.vm T.heap) (hc : cells ≤ C) (hs : slots ≤ S) : Gl p e below (PosH Z EL C S Q s) T (mkF m pc Ls (w :: rest)) := by
  obtain ⟨fs, hr, hrun, hended, hW⟩ := X.leaveW hS hn (v := some w) (fun h => by rw [hret] at h; cases h) hk
  exact ⟨_, _, retOut X hx hret (by rcases ref_cases hw with rfl | ⟨a, rfl⟩ <;> cases t <;> first | rfl | (cases ht; done)) (Or.inr (Or.inr (Or.inr (Or.inr ⟨rfl, ht, hw⟩)))) hd hr, hrun, hended, _, _, rfl, hQ, hC, ReturnedEndW.mono hW hc hs⟩
/-- a callee that may load a held constant and writes only what no constant is -/
theorem backOfSX {y : MethodName} {bytes : ByteArray} {maxL : Nat} {ret : Option FieldType} {rm : Room} {len W : Nat} {as' : Array Value} {xs : List Addr} {Q : Option Value → Heap → List Loc → Prop}
    (hM : MetFree l y (head1 [Cond.code y bytes maxL ret] rm) (fun a U => a = as' ∧ Z.Warmed39 U.vm ∧ U.heap = h ∧ CHv Z EL U.vm h ∧ ∀ x ∈ xs, x < h.size ∧ Safe Z EL U.vm h x) (fun _ _ _ _ _ => True) (fun _ U o U' => ∃ v L, o = .returned v ∧ Q v U'.heap L ∧ CHr Z EL U.vm U.heap U'.vm U'.heap ∧ ReturnedEndW U o U' L rm.cells rm.slots))
    (hZ : Z.Warmed39 vm0) (wc : (Cond.code y bytes maxL ret).before a0 Z = true) (wz : (Cond.initialized y.cls).before a0 Z = true) (hf : rm.frames + 1 ≤ R.frames) (hl : W + (maxL + 11) + rm.locals ≤ R.locals) (hEL : EW Z a0 EL) (H : CHv Z EL vm0 h) (hs : ∀ x ∈ xs, x < h.size ∧ Safe Z EL vm0 h x) :
    BackS l R p e below (s.setVm vm0) args y len W (fun A a => a = as' ∧ A.U.heap = h ∧ A.cells + rm.cells ≤ R.cells ∧ A.slots + rm.slots ≤ R.slots)
      (fun A _ v B => ∃ L, Q v B.U.heap L ∧ B.locs = A.locs ++ L ∧ B.cells = A.cells + rm.cells ∧ B.slots = A.slots + rm.slots ∧ CHr Z EL vm0 h B.U.vm B.U.heap) := by
  refine BackS.of_freeW (bytes := bytes) (maxL := maxL) (ret := ret) (E := fun _ u o t L k n => CHr Z EL u.vm u.heap t.vm t.heap ∧ (∃ v, o = .returned v ∧ Q v t.heap L) ∧ rm.cells = k ∧ rm.slots = n) hM hf hl ?_ ?_ ?_ ?_ ?_
  · intro _ _ _ A a Y hp
    have hA : Z.Warmed39 A.U.vm := wtrans (s := s.setVm vm0) hZ Y.warmed
    have hcode : (Cond.code y bytes maxL ret).before a A.U = true := mv hA wc
    have hhead : (head1 [Cond.code y bytes maxL ret] rm).pre.before a A.U = true := by
      show (Cond.and (Cond.code y bytes maxL ret) .tt).before a A.U = true
      rw [Cond.before_and, hcode]
      rfl
    obtain ⟨-, -, hcells, hslots⟩ := hp
    exact ⟨hhead, mv hA wc, mv hA wz, hcells, hslots⟩
  · intro _ _ _ A a g mk Y hp
    have hat := CHv.at Y hZ hEL H
    obtain ⟨ha, hheap, -⟩ := hp
    refine ⟨ha, wtrans (s := s.setVm vm0) hZ Y.warmed, hheap, hat.1, ?_⟩
    intro x hx
    obtain ⟨hlt, hsafe⟩ := hs x hx
    exact ⟨hlt, hat.safe hlt hsafe⟩
  · intros
    trivial
  · rintro _ _ _ _ ⟨v, L, ho, hq, hC, hend⟩
    exact ⟨L, _, _, hend, hC, ⟨v, ho, hq⟩, rfl, rfl⟩
  · rintro _ _ _ A a g mk v t L k n Y hp - - ⟨hC, ⟨w, ho, hq⟩, rfl, rfl⟩
    cases ho
    have hat := CHv.at Y hZ hEL H
    refine ⟨L, hq, rfl, rfl, rfl, hat.trans ?_⟩
    have hh : A.U.heap = h := hp.2.1
    rw [← hh]
    exact hC
theorem castF {a : Addr} {C n d : String} {v v' : Value} (q : v = v') (F : Fld Z h a C n d v) : Fld Z h a C n d v' := q ▸ F
end HeldX
end Jvm.RoadKit
namespace Jvm.Pilot.@@N@@
open Jvm Jvm.ClassFile Sem Op Lib Jvm.Free Jvm.Stand Jvm.LawKit Jvm.RoadKit Bundle Jvm.Pilot.@@N@@.Jvm.D
set_option maxRecDepth 65536
set_option maxHeartbeats 40000000
theorem hW {Z : State} {a0 : Array Value} (hw : ∀ d ∈ tables_1, d.before a0 Z = true) (i : Nat) {d : Jvm.Cond} (h : tables_1[i]? = some d) : d.before a0 Z = true := hw d (List.mem_of_getElem? h)
abbrev mq0 : MethodName := ⟨"jdk/internal/util/Preconditions", "checkIndex", "(IILjava/util/function/BiFunction;)I"⟩
abbrev mq1 : MethodName := ⟨"java/lang/String", "checkIndex", "(II)V"⟩
abbrev mq2 : MethodName := ⟨"java/lang/StringLatin1", "charAt", "([BI)C"⟩
abbrev mq3 : MethodName := ⟨"java/lang/StringUTF16", "length", "([B)I"⟩
abbrev mq4 : MethodName := ⟨"java/lang/StringUTF16", "checkIndex", "(I[B)V"⟩
abbrev mq5 : MethodName := ⟨"java/lang/StringUTF16", "getChar", "([BI)C"⟩
abbrev mq6 : MethodName := ⟨"java/lang/StringUTF16", "charAt", "([BI)C"⟩
abbrev mq7 : MethodName := ⟨"java/lang/String", "coder", "()B"⟩
abbrev mq8 : MethodName := ⟨"java/lang/String", "isLatin1", "()Z"⟩
abbrev mq9 : MethodName := ⟨"java/lang/String", "length", "()I"⟩
abbrev mq10 : MethodName := ⟨"java/lang/String", "charAt", "(I)C"⟩
abbrev mq11 : MethodName := ⟨"java/lang/StringUTF16", "compress", "([CI[BII)I"⟩
abbrev mq12 : MethodName := ⟨"java/lang/StringUTF16", "putChar", "([BII)V"⟩
abbrev mq13 : MethodName := ⟨"java/lang/StringUTF16", "newBytesLength", "(I)I"⟩
abbrev mq14 : MethodName := ⟨"java/lang/StringUTF16", "newBytesFor", "(I)[B"⟩
abbrev mq15 : MethodName := ⟨"java/lang/StringUTF16", "toBytes", "([CII)[B"⟩
abbrev mq16 : MethodName := ⟨"java/lang/StringUTF16", "compress", "([CII)[B"⟩
abbrev mq17 : MethodName := ⟨"java/lang/StringUTF16", "coderFromArrayLen", "([BI)B"⟩
abbrev mq18 : MethodName := ⟨"java/lang/String", "<init>", "([CIILjava/lang/Void;)V"⟩
abbrev mq19 : MethodName := ⟨"java/lang/String", "<init>", "([C)V"⟩
abbrev mq20 : MethodName := ⟨"com/example/gatewarden/gatewarden/formats/PhysicalLines", "isBlank", "(Ljava/lang/String;)Z"⟩
abbrev mq21 : MethodName := ⟨"com/example/gatewarden/gatewarden/formats/PhysicalLinesIsBlankPinLaw", "draw", "(I)C"⟩
abbrev mq22 : MethodName := ⟨"com/example/gatewarden/gatewarden/formats/PhysicalLinesIsBlankPinLaw", "sep", "(C)Z"⟩
def Wd (Z : State) (G1 : Int32) (w_sf : Value) : Prop := Sta Z Z.heap "java/lang/String" "COMPACT_STRINGS" "Z" (.int G1) ∧ ¬ G1 = (0 : Int32) ∧ Sta Z Z.heap "jdk/internal/util/Preconditions" "SIOOBE_FORMATTER" "Ljava/util/function/BiFunction;" w_sf ∧ (w_sf = .null ∨ ∃ r, w_sf = .ref r) ∧ Sta Z Z.heap "java/lang/StringUTF16" "$assertionsDisabled" "Z" (.int 1) ∧ Sta Z Z.heap "java/lang/StringUTF16" "HI_BYTE_SHIFT" "I" (.int 0) ∧ Sta Z Z.heap "java/lang/StringUTF16" "LO_BYTE_SHIFT" "I" (.int 8)
theorem wS {Z : State} {a0 : Array Value} (hw : ∀ d ∈ tables_1, d.before a0 Z = true) : ∀ a ∈ Bundle.stringAtoms, a.before a0 Z = true := by
  intro d hd
  simp only [Bundle.stringAtoms, List.mem_cons, List.not_mem_nil, or_false] at hd
  rcases hd with rfl | rfl | rfl | rfl | rfl | rfl | rfl
  · exact (hW hw 8 rfl)
  · exact (hW hw 7 rfl)
  · exact (hW hw 20 rfl)
  · exact (hW hw 21 rfl)
  · exact (hW hw 22 rfl)
  · exact (hW hw 23 rfl)
  · exact (hW hw 24 rfl)
abbrev EL0 : List (String × Nat) := [("java/lang/String", 7)]
theorem tx0 : (∀ c ∈ "".toList, c.toNat < 256) ∧ "".toList.map (fun c => Value.int (Jvm.Lit.byteI c.toNat.toUInt16)) = [] := ⟨by simp, by simp⟩
theorem hEL0 {Z : State} {a0 : Array Value} (hw : ∀ d ∈ tables_1, d.before a0 Z = true) : EW Z a0 EL0 := EW.cons (hW hw 19 rfl) tx0.1 EW.nil
abbrev bL (x : Int32) : Int32 := ((x.toInt8.toInt32).toInt8.toInt32)
abbrev bA (x : Int32) : Int32 := (((x >>> ((0 : Int32) &&& 31)).toInt8.toInt32).toInt8.toInt32)
abbrev bB (x : Int32) : Int32 := (((x >>> ((8 : Int32) &&& 31)).toInt8.toInt32).toInt8.toInt32)
def chr (x : Int32) : Int32 := x.toUInt32.toUInt16.toUInt32.toInt32
theorem chr_chr (y : Int32) : chr (chr y) = chr y := by
  apply Int32.toBitVec_inj.mp
  show (((((y.toBitVec.setWidth 16).setWidth 32)).setWidth 16).setWidth 32) = (y.toBitVec.setWidth 16).setWidth 32
  simp
theorem tb255 (i : Nat) (h : i < 8) : Nat.testBit 255 i = true := by
  have : i = 0 ∨ i = 1 ∨ i = 2 ∨ i = 3 ∨ i = 4 ∨ i = 5 ∨ i = 6 ∨ i = 7 := by omega
  rcases this with h | h | h | h | h | h | h | h <;> subst h <;> decide
theorem bvL (v : BitVec 32) (h : v.toNat < 256) : (((BitVec.signExtend 32 (BitVec.signExtend 8 v)) &&& 255#32).setWidth 16).setWidth 32 = v := BitVec.eq_of_getLsbD_eq fun i hi => by
  simp only [BitVec.getLsbD_setWidth, BitVec.getLsbD_and, BitVec.getLsbD_signExtend, BitVec.getLsbD_ofNat]
  by_cases h1 : i < 8
  · have a : i < 16 := by omega
    simp [h1, a, hi, tb255 i h1]
  · have z : v.getLsbD i = false := by
      show Nat.testBit v.toNat i = false
      apply Nat.testBit_lt_two_pow
      exact Nat.lt_of_lt_of_le h (Nat.pow_le_pow_right (by decide : 2 > 0) (show 8 ≤ i by omega))
    have b : Nat.testBit 255 i = false := by
      apply Nat.testBit_lt_two_pow
      exact Nat.lt_of_lt_of_le (by decide : 255 < 2 ^ 8) (Nat.pow_le_pow_right (by decide : 2 > 0) (show 8 ≤ i by omega))
    simp [z, b]
theorem dec_L' (x : Int32) (hc : chr x = x) (hl : ¬ (255 : Int32) < x) : chr (chr ((bL x) &&& (255 : Int32))) = x := by
  rw [chr_chr]
  have hb : x.toBitVec.toNat < 256 := by
    have e : (x.toBitVec.setWidth 16).setWidth 32 = x.toBitVec := congrArg Int32.toBitVec hc
    have e2 := congrArg BitVec.toNat e
    simp at e2
    have lt : x.toBitVec.toNat < 65536 := by omega
    have ti : x.toInt = x.toBitVec.toNat := by
      show x.toBitVec.toInt = _
      rw [BitVec.toInt_eq_toNat_of_lt (by omega)]
    have z : (255 : Int32).toInt = 255 := by decide
    rw [Int32.lt_iff_toInt_lt, z, ti] at hl
    omega
  apply Int32.toBitVec_inj.mp
  have e1 : bL x = x.toInt8.toInt32 := by simp [bL]
  rw [e1]
  exact bvL x.toBitVec hb
theorem bvU (v : BitVec 32) : (((((BitVec.signExtend 32 (BitVec.signExtend 8 v)) &&& 255#32) ||| (((BitVec.signExtend 32 (BitVec.signExtend 8 (v.sshiftRight 8))) &&& 255#32) <<< 8)).setWidth 16).setWidth 32) = (v.setWidth 16).setWidth 32 := BitVec.eq_of_getLsbD_eq fun i hi => by
  simp only [BitVec.getLsbD_setWidth, BitVec.getLsbD_or, BitVec.getLsbD_and, BitVec.getLsbD_shiftLeft, BitVec.getLsbD_signExtend, BitVec.getLsbD_sshiftRight, BitVec.getLsbD_ofNat]
  by_cases h1 : i < 8
  · have a : i < 16 := by omega
    have b : Nat.testBit 255 i = true := by
      have : i = 0 ∨ i = 1 ∨ i = 2 ∨ i = 3 ∨ i = 4 ∨ i = 5 ∨ i = 6 ∨ i = 7 := by omega
      rcases this with h | h | h | h | h | h | h | h <;> subst h <;> decide
    simp [h1, a, hi, b]
  · by_cases h2 : i < 16
    · have b : Nat.testBit 255 i = false := by
        have : i = 8 ∨ i = 9 ∨ i = 10 ∨ i = 11 ∨ i = 12 ∨ i = 13 ∨ i = 14 ∨ i = 15 := by omega
        rcases this with h | h | h | h | h | h | h | h <;> subst h <;> decide
      have c : Nat.testBit 255 (i - 8) = true := by
        have : i = 8 ∨ i = 9 ∨ i = 10 ∨ i = 11 ∨ i = 12 ∨ i = 13 ∨ i = 14 ∨ i = 15 := by omega
        rcases this with h | h | h | h | h | h | h | h <;> subst h <;> decide
      have d : i - 8 < 8 := by omega
      have e : 8 + (i - 8) = i := by omega
      have f : ¬ 32 ≤ i - 8 := by omega
      have g : i - 8 < 32 := by omega
      simp [h1, h2, hi, b, c, d, e, f, g]
    · simp [h2]
theorem dec_U' (x : Int32) : chr (chr ((((bA x) &&& (255 : Int32)) <<< ((0 : Int32) &&& 31)) ||| (((bB x) &&& (255 : Int32)) <<< ((8 : Int32) &&& 31)))) = chr x := by
  have cc : ∀ y : Int32, chr (chr y) = chr y := fun y => by
    apply Int32.toBitVec_inj.mp
    show (((((y.toBitVec.setWidth 16).setWidth 32)).setWidth 16).setWidth 32) = (y.toBitVec.setWidth 16).setWidth 32
    simp
  rw [cc]
  apply Int32.toBitVec_inj.mp
  have s0 : ((0 : Int32) &&& 31) = 0 := by decide
  have s8 : ((8 : Int32) &&& 31) = 8 := by decide
  have e1 : bA x = x.toInt8.toInt32 := by
    simp only [bA, s0]; simp
  have e2 : bB x = (x >>> 8).toInt8.toInt32 := by
    simp only [bB, s8]; simp
  rw [e1, e2, s0, s8]
  have q := bvU x.toBitVec
  show (((((BitVec.signExtend 32 (BitVec.signExtend 8 x.toBitVec)) &&& 255#32) <<< 0 ||| (((BitVec.signExtend 32 (BitVec.signExtend 8 (x.toBitVec.sshiftRight 8))) &&& 255#32) <<< 8)).setWidth 16).setWidth 32) = (x.toBitVec.setWidth 16).setWidth 32
  rw [BitVec.shiftLeft_zero]
  exact q
theorem dec_L (x : Int32) (hc : nar .char x = x) (hl : ¬ (255 : Int32) < x) : nar .char (((bL x) &&& (255 : Int32)).toUInt32.toUInt16.toUInt32.toInt32) = x := dec_L' x hc hl
theorem dec_U (x : Int32) : nar .char (((((bA x) &&& (255 : Int32)) <<< ((0 : Int32) &&& 31)) ||| (((bB x) &&& (255 : Int32)) <<< ((8 : Int32) &&& 31))).toUInt32.toUInt16.toUInt32.toInt32) = nar .char x := dec_U' x
theorem nar_nar (x : Int32) : nar .char (nar .char x) = nar .char x := chr_chr x

theorem getDI (us : List Int32) (k : Nat) : (us.map Value.int).getD k (.int 0) = .int (us.getD k 0) := by
  simp only [List.getD, List.getElem?_map]
  cases us[k]? <;> rfl
theorem arv_at {Z : State} {h : Heap} {a : Addr} {k : ClassId} {ty : FieldType} {n : Int32} {vv : List Value} {u w dv : Value} {i j i' j' : Nat} (A : Arv Z h a k ty n ((vv.set i u).set j w) dv) (e1 : i = i') (e2 : j = j') : Arv Z h a k ty n ((vv.set i' u).set j' w) dv := by
  subst e1 e2; exact A
theorem d16_0 : decode jdk_41_method_11_code 0 = .ok (.iload_n 0, 1) := by decide +kernel
theorem d16_1 : decode jdk_41_method_11_code 1 = .ok (.ifCond .lt 8, 3) := by decide +kernel
theorem d16_4 : decode jdk_41_method_11_code 4 = .ok (.iload_n 0, 1) := by decide +kernel
theorem d16_5 : decode jdk_41_method_11_code 5 = .ok (.iload_n 1, 1) := by decide +kernel
theorem d16_6 : decode jdk_41_method_11_code 6 = .ok (.if_icmp .lt 10, 3) := by decide +kernel
theorem d16_16 : decode jdk_41_method_11_code 16 = .ok (.iload_n 0, 1) := by decide +kernel
theorem d16_17 : decode jdk_41_method_11_code 17 = .ok (.ireturn, 1) := by decide +kernel
theorem pn0 : plainName "jdk/internal/util/Preconditions" = true := by first | (simp [plainName, overriddenIn]; done) | decide +kernel
theorem ef16N (m : MethodId) (x0 : Int32) (x1 : Int32) : entryFrame m #[(.int x0), (.int x1), .null] 3 = mkF m 0 #[.val (.int x0), .val (.int x1), .val .null] [] := by first | (simp [entryFrame, mkF, argsToLocals, Value.category]; done) | rfl
def Q16N (Z : State) (p0 : Int32) (p1 : Int32) (G1 : Int32) (w_sf : Value) (h0 : Heap) (n0 : Nat) (v : Option Value) (h : Heap) (L : List Loc) : Prop := v = some (.int p0) ∧ Fr n0 L ∧ h = h0
theorem rm16N (l : Launch) (Z : State) (a0' : Array Value) (hw : ∀ d ∈ tables_1, d.before a0' Z = true) (ws : List Jvm.Cond) (p0 : Int32) (p1 : Int32) (G1 : Int32) (w_sf : Value) (h0 : Heap) (n0 : Nat) (O : Old Z n0 h0) (W : Wd Z G1 w_sf) (h1 : ¬ p0 < (0 : Int32)) (h2 : p0 < p1) :
    MetFree l mq0 (head1 (Jvm.Cond.code mq0 jdk_41_method_11_code 3 (some .int) :: ws) ({ frames := 0, cells := 0, slots := 0, locals := 0 } : Room)) (fun a U => a = #[(.int p0), (.int p1), .null] ∧ Z.Warmed39 U.vm ∧ U.heap = h0) (fun _ _ _ _ _ => True) (fun _ U o U' => ∃ v L, o = .returned v ∧ Q16N Z p0 p1 G1 w_sf h0 n0 v U'.heap L ∧ FrameEnd U o U' L ({ frames := 0, cells := 0, slots := 0, locals := 0 } : Room).cells ({ frames := 0, cells := 0, slots := 0, locals := 0 } : Room).slots) := by
  refine MetFree.of_bodySF (plainFor_of_name pn0) hisR ?_
  intro p e s m args below meth c s₁ Bd hml0 hP hK
  obtain ⟨rfl, hZ, hh⟩ := hP
  have hx := Bd.exec
  have hby := Bd.bytes
  have hml : c.maxLocals = 3 := hml0
  have hown : s.vm.findClass "jdk/internal/util/Preconditions" = some m.cls := findClass_of_methodNamed Bd.named
  have hnm := (name_of_methodNamed Bd.named Bd.method).1
  have hk := Bd.notSynchronized
  have X0 : Stand p l e ({ frames := 0, cells := 0, slots := 0, locals := 0 } : Room) s m #[(.int p0), (.int p1), .null] below meth c s₁ [] 0 0 := Stand.of_body Bd
  have hh2 := hh
  have e0 : s₁.heap = h0 := by rw [← hh, Bd.state]; rfl
  have N0 := Fr.nil n0
  show Gl p e below (Pos 0 0 (Q16N Z p0 p1 G1 w_sf h0 n0) s) s₁ _
  refine Gl.cast (ef16N m p0 p1) ?_
  refine gb (mkF m 1 #[vi p0, vi p1, .val .null] [(.int p0)]) (fun _ k => XS.iloadN X0.here hx rfl (hb hby d16_0) rfl k) ?_
  refine gb (mkF m 4 #[vi p0, vi p1, .val .null] []) (fun _ k => XS.ifNo X0.here hx rfl (hb hby d16_1) rfl ((if0 _ _).trans (flt h1).1) k) ?_
  refine gb (mkF m 5 #[vi p0, vi p1, .val .null] [(.int p0)]) (fun _ k => XS.iloadN X0.here hx rfl (hb hby d16_4) rfl k) ?_
  refine gb (mkF m 6 #[vi p0, vi p1, .val .null] [(.int p1), (.int p0)]) (fun _ k => XS.iloadN X0.here hx rfl (hb hby d16_5) rfl k) ?_
  refine gb (mkF m 16 #[vi p0, vi p1, .val .null] []) (fun _ k => XS.icmpYes X0.here hx rfl (pc0 := 6) (pc' := 16) rfl (hb hby d16_6) rfl (tlt h2).1 (by decide) (by decide) k) ?_
  refine gb (mkF m 17 #[vi p0, vi p1, .val .null] [(.int p0)]) (fun _ k => XS.iloadN X0.here hx rfl (hb hby d16_16) rfl k) ?_
  exact Gl.outI X0 hx hk Bd.returns (hb hby d16_17) ⟨rfl, N0, e0⟩ (by decide) (by decide)
theorem ef16R (m : MethodId) (x0 : Int32) (x1 : Int32) (x2 : Addr) : entryFrame m #[(.int x0), (.int x1), (.ref x2)] 3 = mkF m 0 #[.val (.int x0), .val (.int x1), .val (.ref x2)] [] := by first | (simp [entryFrame, mkF, argsToLocals, Value.category]; done) | rfl
def Q16R (Z : State) (p0 : Int32) (p1 : Int32) (a2 : Addr) (G1 : Int32) (w_sf : Value) (h0 : Heap) (n0 : Nat) (v : Option Value) (h : Heap) (L : List Loc) : Prop := v = some (.int p0) ∧ Fr n0 L ∧ h = h0
theorem rm16R (l : Launch) (Z : State) (a0' : Array Value) (hw : ∀ d ∈ tables_1, d.before a0' Z = true) (ws : List Jvm.Cond) (p0 : Int32) (p1 : Int32) (a2 : Addr) (G1 : Int32) (w_sf : Value) (h0 : Heap) (n0 : Nat) (O : Old Z n0 h0) (W : Wd Z G1 w_sf) (h1 : ¬ p0 < (0 : Int32)) (h2 : p0 < p1) :
    MetFree l mq0 (head1 (Jvm.Cond.code mq0 jdk_41_method_11_code 3 (some .int) :: ws) ({ frames := 0, cells := 0, slots := 0, locals := 0 } : Room)) (fun a U => a = #[(.int p0), (.int p1), (.ref a2)] ∧ Z.Warmed39 U.vm ∧ U.heap = h0) (fun _ _ _ _ _ => True) (fun _ U o U' => ∃ v L, o = .returned v ∧ Q16R Z p0 p1 a2 G1 w_sf h0 n0 v U'.heap L ∧ FrameEnd U o U' L ({ frames := 0, cells := 0, slots := 0, locals := 0 } : Room).cells ({ frames := 0, cells := 0, slots := 0, locals := 0 } : Room).slots) := by
  refine MetFree.of_bodySF (plainFor_of_name pn0) hisR ?_
  intro p e s m args below meth c s₁ Bd hml0 hP hK
  obtain ⟨rfl, hZ, hh⟩ := hP
  have hx := Bd.exec
  have hby := Bd.bytes
  have hml : c.maxLocals = 3 := hml0
  have hown : s.vm.findClass "jdk/internal/util/Preconditions" = some m.cls := findClass_of_methodNamed Bd.named
  have hnm := (name_of_methodNamed Bd.named Bd.method).1
  have hk := Bd.notSynchronized
  have X0 : Stand p l e ({ frames := 0, cells := 0, slots := 0, locals := 0 } : Room) s m #[(.int p0), (.int p1), (.ref a2)] below meth c s₁ [] 0 0 := Stand.of_body Bd
  have hh2 := hh
  have e0 : s₁.heap = h0 := by rw [← hh, Bd.state]; rfl
  have N0 := Fr.nil n0
  show Gl p e below (Pos 0 0 (Q16R Z p0 p1 a2 G1 w_sf h0 n0) s) s₁ _
  refine Gl.cast (ef16R m p0 p1 a2) ?_
  refine gb (mkF m 1 #[vi p0, vi p1, vr a2] [(.int p0)]) (fun _ k => XS.iloadN X0.here hx rfl (hb hby d16_0) rfl k) ?_
  refine gb (mkF m 4 #[vi p0, vi p1, vr a2] []) (fun _ k => XS.ifNo X0.here hx rfl (hb hby d16_1) rfl ((if0 _ _).trans (flt h1).1) k) ?_
  refine gb (mkF m 5 #[vi p0, vi p1, vr a2] [(.int p0)]) (fun _ k => XS.iloadN X0.here hx rfl (hb hby d16_4) rfl k) ?_
  refine gb (mkF m 6 #[vi p0, vi p1, vr a2] [(.int p1), (.int p0)]) (fun _ k => XS.iloadN X0.here hx rfl (hb hby d16_5) rfl k) ?_
  refine gb (mkF m 16 #[vi p0, vi p1, vr a2] []) (fun _ k => XS.icmpYes X0.here hx rfl (pc0 := 6) (pc' := 16) rfl (hb hby d16_6) rfl (tlt h2).1 (by decide) (by decide) k) ?_
  refine gb (mkF m 17 #[vi p0, vi p1, vr a2] [(.int p0)]) (fun _ k => XS.iloadN X0.here hx rfl (hb hby d16_16) rfl k) ?_
  exact Gl.outI X0 hx hk Bd.returns (hb hby d16_17) ⟨rfl, N0, e0⟩ (by decide) (by decide)
theorem d15_0 : decode jdk_42_method_155_code 0 = .ok (.iload_n 0, 1) := by decide +kernel
theorem d15_1 : decode jdk_42_method_155_code 1 = .ok (.iload_n 1, 1) := by decide +kernel
theorem d15_2 : decode jdk_42_method_155_code 2 = .ok (.getstatic 1053, 3) := by decide +kernel
theorem d15_5 : decode jdk_42_method_155_code 5 = .ok (.invokestatic 1059, 3) := by decide +kernel
theorem d15_8 : decode jdk_42_method_155_code 8 = .ok (.pop, 1) := by decide +kernel
theorem d15_9 : decode jdk_42_method_155_code 9 = .ok (.return_, 1) := by decide +kernel
theorem pn1 : plainName "java/lang/String" = true := by first | (simp [plainName, overriddenIn]; done) | decide +kernel
theorem pd13 : parseMethodDescriptor "(IILjava/util/function/BiFunction;)I" = some ⟨[.int, .int, (.object "java/util/function/BiFunction")], some .int⟩ := by decide +kernel
theorem ef15 (m : MethodId) (x0 : Int32) (x1 : Int32) : entryFrame m #[(.int x0), (.int x1)] 2 = mkF m 0 #[.val (.int x0), .val (.int x1)] [] := by first | (simp [entryFrame, mkF, argsToLocals, Value.category]; done) | rfl
def Q15 (Z : State) (p0 : Int32) (p1 : Int32) (G1 : Int32) (w_sf : Value) (h0 : Heap) (n0 : Nat) (v : Option Value) (h : Heap) (L : List Loc) : Prop := v = none ∧ Fr n0 L ∧ h = h0
theorem rm15 (l : Launch) (Z : State) (a0' : Array Value) (hw : ∀ d ∈ tables_1, d.before a0' Z = true) (ws : List Jvm.Cond) (p0 : Int32) (p1 : Int32) (G1 : Int32) (w_sf : Value) (h0 : Heap) (n0 : Nat) (O : Old Z n0 h0) (W : Wd Z G1 w_sf) (h1 : ¬ p0 < (0 : Int32)) (h2 : p0 < p1) :
    MetFree l mq1 (head1 (Jvm.Cond.code mq1 jdk_42_method_155_code 2 none :: ws) ({ frames := 1, cells := 0, slots := 0, locals := 14 } : Room)) (fun a U => a = #[(.int p0), (.int p1)] ∧ Z.Warmed39 U.vm ∧ U.heap = h0) (fun _ _ _ _ _ => True) (fun _ U o U' => ∃ v L, o = .returned v ∧ Q15 Z p0 p1 G1 w_sf h0 n0 v U'.heap L ∧ FrameEnd U o U' L ({ frames := 1, cells := 0, slots := 0, locals := 14 } : Room).cells ({ frames := 1, cells := 0, slots := 0, locals := 14 } : Room).slots) := by
  refine MetFree.of_bodySF (plainFor_of_name pn1) hisR ?_
  intro p e s m args below meth c s₁ Bd hml0 hP hK
  obtain ⟨rfl, hZ, hh⟩ := hP
  have hx := Bd.exec
  have hby := Bd.bytes
  have hml : c.maxLocals = 2 := hml0
  have hown : s.vm.findClass "java/lang/String" = some m.cls := findClass_of_methodNamed Bd.named
  have hnm := (name_of_methodNamed Bd.named Bd.method).1
  have hk := Bd.notSynchronized
  have X0 : Stand p l e ({ frames := 1, cells := 0, slots := 0, locals := 14 } : Room) s m #[(.int p0), (.int p1)] below meth c s₁ [] 0 0 := Stand.of_body Bd
  have hh2 := hh
  have e0 : s₁.heap = h0 := by rw [← hh, Bd.state]; rfl
  have N0 := Fr.nil n0
  show Gl p e below (Pos 0 0 (Q15 Z p0 p1 G1 w_sf h0 n0) s) s₁ _
  refine Gl.cast (ef15 m p0 p1) ?_
  refine gb (mkF m 1 #[vi p0, vi p1] [(.int p0)]) (fun _ k => XS.iloadN X0.here hx rfl (hb hby d15_0) rfl k) ?_
  refine gb (mkF m 2 #[vi p0, vi p1] [(.int p1), (.int p0)]) (fun _ k => XS.iloadN X0.here hx rfl (hb hby d15_1) rfl k) ?_
  rcases W.2.2.2.1 with hsf | ⟨sfr, hsf⟩
  · have sta1 : Sta Z _ "jdk/internal/util/Preconditions" "SIOOBE_FORMATTER" "Ljava/util/function/BiFunction;" .null := hsf ▸ (Sta.ext O.2 W.2.2.1)
    obtain ⟨T1, X1, e1, st1⟩ := getS2 X0 hx hZ hown (host := "") (Or.inl (hW hw 72 rfl)) Via.refl e0 sta1 (g := (mkF m 2 #[vi p0, vi p1] [(.int p1), (.int p0)])) rfl (hb hby d15_2)
    refine gb (mkF m 5 #[vi p0, vi p1] [.null, (.int p1), (.int p0)]) st1 ?_
    obtain ⟨_, _, ⟨T2, L2, k2, n2⟩, -, X2, ⟨Lc2, hQ2, l2, y2, z2⟩, st2⟩ := callS X1 hx (y := mq0) hown (mvT hZ (hW hw 74 rfl)) (mvT hZ (hW hw 75 rfl)) (mvT hZ (hW hw 73 rfl)) (mvT hZ (hW hw 76 rfl)) (by decide) (backOf (W := 0) (rm16N l Z a0' hw [] p0 p1 G1 w_sf h0 n0 O W h1 h2) hZ (hW hw 76 rfl) (hW hw 73 rfl) (by decide) (by decide)) (g := (mkF m 5 #[vi p0, vi p1] [.null, (.int p1), (.int p0)])) rfl (by rw [hml]; rfl) (argsL := [(.int p0), (.int p1), .null]) (rest := []) (lenOf pd13 rfl) rfl (Nat.le_of_eq rfl) (hb hby d15_5) (fun _ _ => ⟨rfl, e1, (by decide : 0 + 0 ≤ _), (by decide : 0 + 0 ≤ _)⟩)
    dsimp only [Pt.U, Pt.locs, Pt.cells, Pt.slots] at X2 l2 y2 z2 st2 hQ2
    subst l2 y2 z2
    obtain ⟨rfl, N2q, e2⟩ := hQ2
    have N2 := Fr.app N0 N2q
    refine gb (mkF m 8 #[vi p0, vi p1] [(.int p0)]) st2 ?_
    refine gb (mkF m 9 #[vi p0, vi p1] []) (fun _ k => XS.pop X2.here hx rfl (hb hby d15_8) rfl rfl k) ?_
    exact Gl.outV X2 hx hk Bd.returns (hb hby d15_9) ⟨rfl, N2, e2⟩ (by decide) (by decide)
  · have sta1 : Sta Z _ "jdk/internal/util/Preconditions" "SIOOBE_FORMATTER" "Ljava/util/function/BiFunction;" (.ref sfr) := hsf ▸ (Sta.ext O.2 W.2.2.1)
    obtain ⟨T1, X1, e1, st1⟩ := getS2 X0 hx hZ hown (host := "") (Or.inl (hW hw 72 rfl)) Via.refl e0 sta1 (g := (mkF m 2 #[vi p0, vi p1] [(.int p1), (.int p0)])) rfl (hb hby d15_2)
    refine gb (mkF m 5 #[vi p0, vi p1] [(.ref sfr), (.int p1), (.int p0)]) st1 ?_
    obtain ⟨_, _, ⟨T3, L3, k3, n3⟩, -, X3, ⟨Lc3, hQ3, l3, y3, z3⟩, st3⟩ := callS X1 hx (y := mq0) hown (mvT hZ (hW hw 74 rfl)) (mvT hZ (hW hw 75 rfl)) (mvT hZ (hW hw 73 rfl)) (mvT hZ (hW hw 76 rfl)) (by decide) (backOf (W := 0) (rm16R l Z a0' hw [] p0 p1 sfr G1 w_sf h0 n0 O W h1 h2) hZ (hW hw 76 rfl) (hW hw 73 rfl) (by decide) (by decide)) (g := (mkF m 5 #[vi p0, vi p1] [(.ref sfr), (.int p1), (.int p0)])) rfl (by rw [hml]; rfl) (argsL := [(.int p0), (.int p1), (.ref sfr)]) (rest := []) (lenOf pd13 rfl) rfl (Nat.le_of_eq rfl) (hb hby d15_5) (fun _ _ => ⟨rfl, e1, (by decide : 0 + 0 ≤ _), (by decide : 0 + 0 ≤ _)⟩)
    dsimp only [Pt.U, Pt.locs, Pt.cells, Pt.slots] at X3 l3 y3 z3 st3 hQ3
    subst l3 y3 z3
    obtain ⟨rfl, N3q, e3⟩ := hQ3
    have N3 := Fr.app N0 N3q
    refine gb (mkF m 8 #[vi p0, vi p1] [(.int p0)]) st3 ?_
    refine gb (mkF m 9 #[vi p0, vi p1] []) (fun _ k => XS.pop X3.here hx rfl (hb hby d15_8) rfl rfl k) ?_
    exact Gl.outV X3 hx hk Bd.returns (hb hby d15_9) ⟨rfl, N3, e3⟩ (by decide) (by decide)
theorem d14_0 : decode jdk_43_method_2_code 0 = .ok (.iload_n 1, 1) := by decide +kernel
theorem d14_1 : decode jdk_43_method_2_code 1 = .ok (.aload_n 0, 1) := by decide +kernel
theorem d14_2 : decode jdk_43_method_2_code 2 = .ok (.arraylength, 1) := by decide +kernel
theorem d14_3 : decode jdk_43_method_2_code 3 = .ok (.invokestatic 9, 3) := by decide +kernel
theorem d14_6 : decode jdk_43_method_2_code 6 = .ok (.aload_n 0, 1) := by decide +kernel
theorem d14_7 : decode jdk_43_method_2_code 7 = .ok (.iload_n 1, 1) := by decide +kernel
theorem d14_8 : decode jdk_43_method_2_code 8 = .ok (.baload, 1) := by decide +kernel
theorem d14_9 : decode jdk_43_method_2_code 9 = .ok (.sipush 255, 3) := by decide +kernel
theorem d14_12 : decode jdk_43_method_2_code 12 = .ok (.iand, 1) := by decide +kernel
theorem d14_13 : decode jdk_43_method_2_code 13 = .ok (.i2c, 1) := by decide +kernel
theorem d14_14 : decode jdk_43_method_2_code 14 = .ok (.ireturn, 1) := by decide +kernel
theorem pn2 : plainName "java/lang/StringLatin1" = true := by first | (simp [plainName, overriddenIn]; done) | decide +kernel
theorem pd25 : parseMethodDescriptor "(II)V" = some ⟨[.int, .int], none⟩ := by decide +kernel
theorem ef14 (m : MethodId) (x0 : Addr) (x1 : Int32) : entryFrame m #[(.ref x0), (.int x1)] 2 = mkF m 0 #[.val (.ref x0), .val (.int x1)] [] := by first | (simp [entryFrame, mkF, argsToLocals, Value.category]; done) | rfl
def fn14 (p1 : Int32) (us : List Int32) (G1 : Int32) (w_sf : Value) : Int32 := (nar .char (((us.getD (p1).toNatClampNeg 0) &&& (255 : Int32)).toUInt32.toUInt16.toUInt32.toInt32))
def Q14 (Z : State) (a0 : Addr) (p1 : Int32) (kb : ClassId) (zn : Int32) (us : List Int32) (G1 : Int32) (w_sf : Value) (h0 : Heap) (n0 : Nat) (v : Option Value) (h : Heap) (L : List Loc) : Prop := v = some (.int (fn14 p1 us G1 w_sf)) ∧ Fr n0 L ∧ h = h0
theorem rm14 (l : Launch) (Z : State) (a0' : Array Value) (hw : ∀ d ∈ tables_1, d.before a0' Z = true) (ws : List Jvm.Cond) (a0 : Addr) (p1 : Int32) (kb : ClassId) (zn : Int32) (us : List Int32) (G1 : Int32) (w_sf : Value) (h0 : Heap) (n0 : Nat) (O : Old Z n0 h0) (W : Wd Z G1 w_sf) (pf0 : Arv Z h0 a0 kb .byte zn (us.map Value.int) (.int 0)) (h1 : ¬ p1 < (0 : Int32)) (h2 : p1 < zn) :
    MetFree l mq2 (head1 (Jvm.Cond.code mq2 jdk_43_method_2_code 2 (some .char) :: ws) ({ frames := 2, cells := 0, slots := 0, locals := 27 } : Room)) (fun a U => a = #[(.ref a0), (.int p1)] ∧ Z.Warmed39 U.vm ∧ U.heap = h0) (fun _ _ _ _ _ => True) (fun _ U o U' => ∃ v L, o = .returned v ∧ Q14 Z a0 p1 kb zn us G1 w_sf h0 n0 v U'.heap L ∧ FrameEnd U o U' L ({ frames := 2, cells := 0, slots := 0, locals := 27 } : Room).cells ({ frames := 2, cells := 0, slots := 0, locals := 27 } : Room).slots) := by
  refine MetFree.of_bodySF (plainFor_of_name pn2) hisR ?_
  intro p e s m args below meth c s₁ Bd hml0 hP hK
  obtain ⟨rfl, hZ, hh⟩ := hP
  have hx := Bd.exec
  have hby := Bd.bytes
  have hml : c.maxLocals = 2 := hml0
  have hown : s.vm.findClass "java/lang/StringLatin1" = some m.cls := findClass_of_methodNamed Bd.named
  have hnm := (name_of_methodNamed Bd.named Bd.method).1
  have hk := Bd.notSynchronized
  have X0 : Stand p l e ({ frames := 2, cells := 0, slots := 0, locals := 27 } : Room) s m #[(.ref a0), (.int p1)] below meth c s₁ [] 0 0 := Stand.of_body Bd
  have hh2 := hh
  have e0 : s₁.heap = h0 := by rw [← hh, Bd.state]; rfl
  have N0 := Fr.nil n0
  show Gl p e below (Pos 0 0 (Q14 Z a0 p1 kb zn us G1 w_sf h0 n0) s) s₁ _
  refine Gl.cast (ef14 m a0 p1) ?_
  refine gb (mkF m 1 #[vr a0, vi p1] [(.int p1)]) (fun _ k => XS.iloadN X0.here hx rfl (hb hby d14_0) rfl k) ?_
  refine gb (mkF m 2 #[vr a0, vi p1] [(.ref a0), (.int p1)]) (fun _ k => XS.aloadN X0.here hx rfl (hb hby d14_1) rfl rfl k) ?_
  obtain ⟨cl1, Ar1, qa1, Sa1, Na1, Ha1, Ga1⟩ := id pf0
  refine gb (mkF m 3 #[vr a0, vi p1] [(.int zn), (.int p1)]) (fun t k => X0.arraylength hx (by rw [e0]; exact Ar1.1) (State.isArrayOf_alike hZ.alike Ar1.2.1) (g := (mkF m 2 #[vr a0, vi p1] [(.ref a0), (.int p1)])) rfl rfl (hb hby d14_2) t (by rw [len_of Sa1 Na1]; exact k)) ?_
  obtain ⟨_, _, ⟨T2, L2, k2, n2⟩, -, X2, ⟨Lc2, hQ2, l2, y2, z2⟩, st2⟩ := callS X0 hx (y := mq1) hown (mvT hZ (hW hw 69 rfl)) (mvT hZ (hW hw 70 rfl)) (mvT hZ (hW hw 8 rfl)) (mvT hZ (hW hw 71 rfl)) (by decide) (backOf (W := 0) (rm15 l Z a0' hw [] p1 zn G1 w_sf h0 n0 O W h1 h2) hZ (hW hw 71 rfl) (hW hw 8 rfl) (by decide) (by decide)) (g := (mkF m 3 #[vr a0, vi p1] [(.int zn), (.int p1)])) rfl (by rw [hml]; rfl) (argsL := [(.int p1), (.int zn)]) (rest := []) (lenOf pd25 rfl) rfl (Nat.le_of_eq rfl) (hb hby d14_3) (fun _ _ => ⟨rfl, e0, (by decide : 0 + 0 ≤ _), (by decide : 0 + 0 ≤ _)⟩)
  dsimp only [Pt.U, Pt.locs, Pt.cells, Pt.slots] at X2 l2 y2 z2 st2 hQ2
  subst l2 y2 z2
  obtain ⟨rfl, N2q, e2⟩ := hQ2
  have N2 := Fr.app N0 N2q
  refine gb (mkF m 6 #[vr a0, vi p1] []) st2 ?_
  refine gb (mkF m 7 #[vr a0, vi p1] [(.ref a0)]) (fun _ k => XS.aloadN X2.here hx rfl (hb hby d14_6) rfl rfl k) ?_
  refine gb (mkF m 8 #[vr a0, vi p1] [(.int p1), (.ref a0)]) (fun _ k => XS.iloadN X2.here hx rfl (hb hby d14_7) rfl k) ?_
  obtain ⟨cl3, Ar3, qa3, Sa3, Na3, Ha3, Ga3⟩ := id pf0
  have hin4 : ¬ (p1 < 0 ∨ cl3.slots.size ≤ (p1).toNatClampNeg) := inb_of Sa3 ⟨h1, h2⟩
  refine gb (mkF m 9 #[vr a0, vi p1] [(.int (us.getD (p1).toNatClampNeg 0))]) (X2.baloadBytes hx (j := p1) (v := (.int (us.getD (p1).toNatClampNeg 0))) (by rw [e2]; exact Ar3.1) (State.isArrayOf_alike hZ.alike Ar3.2.1) Ar3.2.2 hin4 (Has.at Ha3 hin4 (getDI _ _)) (g := (mkF m 8 #[vr a0, vi p1] [(.int p1), (.ref a0)])) rfl rfl (hb hby d14_8)) ?_
  refine gb (mkF m 12 #[vr a0, vi p1] [(.int 255), (.int (us.getD (p1).toNatClampNeg 0))]) (fun _ k => XS.sipush X2.here hx rfl (hb hby d14_9) k) ?_
  refine gb (mkF m 13 #[vr a0, vi p1] [(.int ((us.getD (p1).toNatClampNeg 0) &&& (255 : Int32)))]) (fun _ k => XS.iand X2.here hx rfl (hb hby d14_12) rfl k) ?_
  refine gb (mkF m 14 #[vr a0, vi p1] [(.int (((us.getD (p1).toNatClampNeg 0) &&& (255 : Int32)).toUInt32.toUInt16.toUInt32.toInt32))]) (fun _ k => XS.i2c X2.here hx rfl (hb hby d14_13) rfl k) ?_
  exact Gl.outN X2 hx hk (t := .char) Bd.returns (by simp) (hb hby d14_14) ⟨(congrArg (fun z => some (Value.int z)) (show nar .char (((us.getD (p1).toNatClampNeg 0) &&& (255 : Int32)).toUInt32.toUInt16.toUInt32.toInt32) = fn14 p1 us G1 w_sf by unfold fn14; try rfl)), N2, e2⟩ (by decide) (by decide)
theorem d24_0 : decode jdk_52_method_6_code 0 = .ok (.aload_n 0, 1) := by decide +kernel
theorem d24_1 : decode jdk_52_method_6_code 1 = .ok (.arraylength, 1) := by decide +kernel
theorem d24_2 : decode jdk_52_method_6_code 2 = .ok (.iconst 1, 1) := by decide +kernel
theorem d24_3 : decode jdk_52_method_6_code 3 = .ok (.ishr, 1) := by decide +kernel
theorem d24_4 : decode jdk_52_method_6_code 4 = .ok (.ireturn, 1) := by decide +kernel
theorem pn3 : plainName "java/lang/StringUTF16" = true := by first | (simp [plainName, overriddenIn]; done) | decide +kernel
theorem ef24 (m : MethodId) (x0 : Addr) : entryFrame m #[(.ref x0)] 1 = mkF m 0 #[.val (.ref x0)] [] := by first | (simp [entryFrame, mkF, argsToLocals, Value.category]; done) | rfl
def Q24 (Z : State) (a0 : Addr) (kb : ClassId) (vv : List Value) (zn : Int32) (G1 : Int32) (w_sf : Value) (h0 : Heap) (n0 : Nat) (v : Option Value) (h : Heap) (L : List Loc) : Prop := v = some (.int (zn >>> ((1 : Int32) &&& 31))) ∧ Fr n0 L ∧ h = h0
theorem rm24 (l : Launch) (Z : State) (a0' : Array Value) (hw : ∀ d ∈ tables_1, d.before a0' Z = true) (ws : List Jvm.Cond) (a0 : Addr) (kb : ClassId) (vv : List Value) (zn : Int32) (G1 : Int32) (w_sf : Value) (h0 : Heap) (n0 : Nat) (O : Old Z n0 h0) (W : Wd Z G1 w_sf) (pf0 : Arv Z h0 a0 kb .byte zn vv (.int 0)) :
    MetFree l mq3 (head1 (Jvm.Cond.code mq3 jdk_52_method_6_code 1 (some .int) :: ws) ({ frames := 0, cells := 0, slots := 0, locals := 0 } : Room)) (fun a U => a = #[(.ref a0)] ∧ Z.Warmed39 U.vm ∧ U.heap = h0) (fun _ _ _ _ _ => True) (fun _ U o U' => ∃ v L, o = .returned v ∧ Q24 Z a0 kb vv zn G1 w_sf h0 n0 v U'.heap L ∧ FrameEnd U o U' L ({ frames := 0, cells := 0, slots := 0, locals := 0 } : Room).cells ({ frames := 0, cells := 0, slots := 0, locals := 0 } : Room).slots) := by
  refine MetFree.of_bodySF (plainFor_of_name pn3) hisR ?_
  intro p e s m args below meth c s₁ Bd hml0 hP hK
  obtain ⟨rfl, hZ, hh⟩ := hP
  have hx := Bd.exec
  have hby := Bd.bytes
  have hml : c.maxLocals = 1 := hml0
  have hown : s.vm.findClass "java/lang/StringUTF16" = some m.cls := findClass_of_methodNamed Bd.named
  have hnm := (name_of_methodNamed Bd.named Bd.method).1
  have hk := Bd.notSynchronized
  have X0 : Stand p l e ({ frames := 0, cells := 0, slots := 0, locals := 0 } : Room) s m #[(.ref a0)] below meth c s₁ [] 0 0 := Stand.of_body Bd
  have hh2 := hh
  have e0 : s₁.heap = h0 := by rw [← hh, Bd.state]; rfl
  have N0 := Fr.nil n0
  show Gl p e below (Pos 0 0 (Q24 Z a0 kb vv zn G1 w_sf h0 n0) s) s₁ _
  refine Gl.cast (ef24 m a0) ?_
  refine gb (mkF m 1 #[vr a0] [(.ref a0)]) (fun _ k => XS.aloadN X0.here hx rfl (hb hby d24_0) rfl rfl k) ?_
  obtain ⟨cl1, Ar1, qa1, Sa1, Na1, Ha1, Ga1⟩ := id pf0
  refine gb (mkF m 2 #[vr a0] [(.int zn)]) (fun t k => X0.arraylength hx (by rw [e0]; exact Ar1.1) (State.isArrayOf_alike hZ.alike Ar1.2.1) (g := (mkF m 1 #[vr a0] [(.ref a0)])) rfl rfl (hb hby d24_1) t (by rw [len_of Sa1 Na1]; exact k)) ?_
  refine gb (mkF m 3 #[vr a0] [(.int 1), (.int zn)]) (fun _ k => XS.iconst X0.here hx rfl (hb hby d24_2) k) ?_
  refine gb (mkF m 4 #[vr a0] [(.int (zn >>> ((1 : Int32) &&& 31)))]) (fun _ k => XS.ishr X0.here hx rfl (hb hby d24_3) rfl k) ?_
  exact Gl.outI X0 hx hk Bd.returns (hb hby d24_4) ⟨rfl, N0, e0⟩ (by decide) (by decide)
theorem d23_0 : decode jdk_52_method_91_code 0 = .ok (.iload_n 0, 1) := by decide +kernel
theorem d23_1 : decode jdk_52_method_91_code 1 = .ok (.aload_n 1, 1) := by decide +kernel
theorem d23_2 : decode jdk_52_method_91_code 2 = .ok (.invokestatic 48, 3) := by decide +kernel
theorem d23_5 : decode jdk_52_method_91_code 5 = .ok (.invokestatic 414, 3) := by decide +kernel
theorem d23_8 : decode jdk_52_method_91_code 8 = .ok (.return_, 1) := by decide +kernel
theorem pd36 : parseMethodDescriptor "([B)I" = some ⟨[(.array .byte)], some .int⟩ := by decide +kernel
theorem ef23 (m : MethodId) (x0 : Int32) (x1 : Addr) : entryFrame m #[(.int x0), (.ref x1)] 2 = mkF m 0 #[.val (.int x0), .val (.ref x1)] [] := by first | (simp [entryFrame, mkF, argsToLocals, Value.category]; done) | rfl
def Q23 (Z : State) (p0 : Int32) (a1 : Addr) (kb : ClassId) (vv : List Value) (zn : Int32) (G1 : Int32) (w_sf : Value) (h0 : Heap) (n0 : Nat) (v : Option Value) (h : Heap) (L : List Loc) : Prop := v = none ∧ Fr n0 L ∧ h = h0
theorem rm23 (l : Launch) (Z : State) (a0' : Array Value) (hw : ∀ d ∈ tables_1, d.before a0' Z = true) (ws : List Jvm.Cond) (p0 : Int32) (a1 : Addr) (kb : ClassId) (vv : List Value) (zn : Int32) (G1 : Int32) (w_sf : Value) (h0 : Heap) (n0 : Nat) (O : Old Z n0 h0) (W : Wd Z G1 w_sf) (pf0 : Arv Z h0 a1 kb .byte zn vv (.int 0)) (h1 : ¬ p0 < (0 : Int32)) (h2 : p0 < (zn >>> ((1 : Int32) &&& 31))) :
    MetFree l mq4 (head1 (Jvm.Cond.code mq4 jdk_52_method_91_code 2 none :: ws) ({ frames := 2, cells := 0, slots := 0, locals := 27 } : Room)) (fun a U => a = #[(.int p0), (.ref a1)] ∧ Z.Warmed39 U.vm ∧ U.heap = h0) (fun _ _ _ _ _ => True) (fun _ U o U' => ∃ v L, o = .returned v ∧ Q23 Z p0 a1 kb vv zn G1 w_sf h0 n0 v U'.heap L ∧ FrameEnd U o U' L ({ frames := 2, cells := 0, slots := 0, locals := 27 } : Room).cells ({ frames := 2, cells := 0, slots := 0, locals := 27 } : Room).slots) := by
  refine MetFree.of_bodySF (plainFor_of_name pn3) hisR ?_
  intro p e s m args below meth c s₁ Bd hml0 hP hK
  obtain ⟨rfl, hZ, hh⟩ := hP
  have hx := Bd.exec
  have hby := Bd.bytes
  have hml : c.maxLocals = 2 := hml0
  have hown : s.vm.findClass "java/lang/StringUTF16" = some m.cls := findClass_of_methodNamed Bd.named
  have hnm := (name_of_methodNamed Bd.named Bd.method).1
  have hk := Bd.notSynchronized
  have X0 : Stand p l e ({ frames := 2, cells := 0, slots := 0, locals := 27 } : Room) s m #[(.int p0), (.ref a1)] below meth c s₁ [] 0 0 := Stand.of_body Bd
  have hh2 := hh
  have e0 : s₁.heap = h0 := by rw [← hh, Bd.state]; rfl
  have N0 := Fr.nil n0
  show Gl p e below (Pos 0 0 (Q23 Z p0 a1 kb vv zn G1 w_sf h0 n0) s) s₁ _
  refine Gl.cast (ef23 m p0 a1) ?_
  refine gb (mkF m 1 #[vi p0, vr a1] [(.int p0)]) (fun _ k => XS.iloadN X0.here hx rfl (hb hby d23_0) rfl k) ?_
  refine gb (mkF m 2 #[vi p0, vr a1] [(.ref a1), (.int p0)]) (fun _ k => XS.aloadN X0.here hx rfl (hb hby d23_1) rfl rfl k) ?_
  obtain ⟨_, _, ⟨T1, L1, k1, n1⟩, -, X1, ⟨Lc1, hQ1, l1, y1, z1⟩, st1⟩ := callS X0 hx (y := mq3) hown (mvT hZ (hW hw 102 rfl)) (mvT hZ (hW hw 103 rfl)) (mvT hZ (hW hw 47 rfl)) (mvT hZ (hW hw 104 rfl)) (by decide) (backOf (W := 1) (rm24 l Z a0' hw [] a1 kb vv zn G1 w_sf h0 n0 O W pf0) hZ (hW hw 104 rfl) (hW hw 47 rfl) (by decide) (by decide)) (g := (mkF m 2 #[vi p0, vr a1] [(.ref a1), (.int p0)])) rfl (by rw [hml]; rfl) (argsL := [(.ref a1)]) (rest := [(.int p0)]) (lenOf pd36 rfl) rfl (Nat.le_of_eq rfl) (hb hby d23_2) (fun _ _ => ⟨rfl, e0, (by decide : 0 + 0 ≤ _), (by decide : 0 + 0 ≤ _)⟩)
  dsimp only [Pt.U, Pt.locs, Pt.cells, Pt.slots] at X1 l1 y1 z1 st1 hQ1
  subst l1 y1 z1
  obtain ⟨rfl, N1q, e1⟩ := hQ1
  have N1 := Fr.app N0 N1q
  refine gb (mkF m 5 #[vi p0, vr a1] [(.int (zn >>> ((1 : Int32) &&& 31))), (.int p0)]) st1 ?_
  obtain ⟨_, _, ⟨T2, L2, k2, n2⟩, -, X2, ⟨Lc2, hQ2, l2, y2, z2⟩, st2⟩ := callS X1 hx (y := mq1) hown (mvT hZ (hW hw 105 rfl)) (mvT hZ (hW hw 70 rfl)) (mvT hZ (hW hw 8 rfl)) (mvT hZ (hW hw 71 rfl)) (by decide) (backOf (W := 0) (rm15 l Z a0' hw [] p0 (zn >>> ((1 : Int32) &&& 31)) G1 w_sf h0 n0 O W h1 h2) hZ (hW hw 71 rfl) (hW hw 8 rfl) (by decide) (by decide)) (g := (mkF m 5 #[vi p0, vr a1] [(.int (zn >>> ((1 : Int32) &&& 31))), (.int p0)])) rfl (by rw [hml]; rfl) (argsL := [(.int p0), (.int (zn >>> ((1 : Int32) &&& 31)))]) (rest := []) (lenOf pd25 rfl) rfl (Nat.le_of_eq rfl) (hb hby d23_5) (fun _ _ => ⟨rfl, e1, (by decide : 0 + 0 ≤ _), (by decide : 0 + 0 ≤ _)⟩)
  dsimp only [Pt.U, Pt.locs, Pt.cells, Pt.slots] at X2 l2 y2 z2 st2 hQ2
  subst l2 y2 z2
  obtain ⟨rfl, N2q, e2⟩ := hQ2
  have N2 := Fr.app N1 N2q
  refine gb (mkF m 8 #[vi p0, vr a1] []) st2 ?_
  exact Gl.outV X2 hx hk Bd.returns (hb hby d23_8) ⟨rfl, N2, e2⟩ (by decide) (by decide)
theorem d21_0 : decode jdk_52_method_5_code 0 = .ok (.getstatic 44, 3) := by decide +kernel
theorem d21_3 : decode jdk_52_method_5_code 3 = .ok (.ifCond .ne 25, 3) := by decide +kernel
theorem d21_28 : decode jdk_52_method_5_code 28 = .ok (.iload_n 1, 1) := by decide +kernel
theorem d21_29 : decode jdk_52_method_5_code 29 = .ok (.iconst 1, 1) := by decide +kernel
theorem d21_30 : decode jdk_52_method_5_code 30 = .ok (.ishl, 1) := by decide +kernel
theorem d21_31 : decode jdk_52_method_5_code 31 = .ok (.istore_n 1, 1) := by decide +kernel
theorem d21_32 : decode jdk_52_method_5_code 32 = .ok (.aload_n 0, 1) := by decide +kernel
theorem d21_33 : decode jdk_52_method_5_code 33 = .ok (.iload_n 1, 1) := by decide +kernel
theorem d21_34 : decode jdk_52_method_5_code 34 = .ok (.iinc 1 1, 3) := by decide +kernel
theorem d21_37 : decode jdk_52_method_5_code 37 = .ok (.baload, 1) := by decide +kernel
theorem d21_38 : decode jdk_52_method_5_code 38 = .ok (.sipush 255, 3) := by decide +kernel
theorem d21_41 : decode jdk_52_method_5_code 41 = .ok (.iand, 1) := by decide +kernel
theorem d21_42 : decode jdk_52_method_5_code 42 = .ok (.getstatic 59, 3) := by decide +kernel
theorem d21_45 : decode jdk_52_method_5_code 45 = .ok (.ishl, 1) := by decide +kernel
theorem d21_46 : decode jdk_52_method_5_code 46 = .ok (.aload_n 0, 1) := by decide +kernel
theorem d21_47 : decode jdk_52_method_5_code 47 = .ok (.iload_n 1, 1) := by decide +kernel
theorem d21_48 : decode jdk_52_method_5_code 48 = .ok (.baload, 1) := by decide +kernel
theorem d21_49 : decode jdk_52_method_5_code 49 = .ok (.sipush 255, 3) := by decide +kernel
theorem d21_52 : decode jdk_52_method_5_code 52 = .ok (.iand, 1) := by decide +kernel
theorem d21_53 : decode jdk_52_method_5_code 53 = .ok (.getstatic 63, 3) := by decide +kernel
theorem d21_56 : decode jdk_52_method_5_code 56 = .ok (.ishl, 1) := by decide +kernel
theorem d21_57 : decode jdk_52_method_5_code 57 = .ok (.ior, 1) := by decide +kernel
theorem d21_58 : decode jdk_52_method_5_code 58 = .ok (.i2c, 1) := by decide +kernel
theorem d21_59 : decode jdk_52_method_5_code 59 = .ok (.ireturn, 1) := by decide +kernel
theorem ef21 (m : MethodId) (x0 : Addr) (x1 : Int32) : entryFrame m #[(.ref x0), (.int x1)] 2 = mkF m 0 #[.val (.ref x0), .val (.int x1)] [] := by first | (simp [entryFrame, mkF, argsToLocals, Value.category]; done) | rfl
def fn21 (p1 : Int32) (us : List Int32) (G1 : Int32) (w_sf : Value) : Int32 := (nar .char (((((us.getD ((p1 <<< ((1 : Int32) &&& 31))).toNatClampNeg 0) &&& (255 : Int32)) <<< ((0 : Int32) &&& 31)) ||| (((us.getD (((p1 <<< ((1 : Int32) &&& 31)) + (1 : Int32))).toNatClampNeg 0) &&& (255 : Int32)) <<< ((8 : Int32) &&& 31))).toUInt32.toUInt16.toUInt32.toInt32))
def Q21 (Z : State) (a0 : Addr) (p1 : Int32) (kb : ClassId) (zn : Int32) (us : List Int32) (G1 : Int32) (w_sf : Value) (h0 : Heap) (n0 : Nat) (v : Option Value) (h : Heap) (L : List Loc) : Prop := v = some (.int (fn21 p1 us G1 w_sf)) ∧ Fr n0 L ∧ h = h0
theorem rm21 (l : Launch) (Z : State) (a0' : Array Value) (hw : ∀ d ∈ tables_1, d.before a0' Z = true) (ws : List Jvm.Cond) (a0 : Addr) (p1 : Int32) (kb : ClassId) (zn : Int32) (us : List Int32) (G1 : Int32) (w_sf : Value) (h0 : Heap) (n0 : Nat) (O : Old Z n0 h0) (W : Wd Z G1 w_sf) (pf0 : Arv Z h0 a0 kb .byte zn (us.map Value.int) (.int 0)) (hb1 : ¬ (p1 <<< ((1 : Int32) &&& 31)) < 0 ∧ (p1 <<< ((1 : Int32) &&& 31)) < zn) (hb2 : ¬ ((p1 <<< ((1 : Int32) &&& 31)) + (1 : Int32)) < 0 ∧ ((p1 <<< ((1 : Int32) &&& 31)) + (1 : Int32)) < zn) :
    MetFree l mq5 (head1 (Jvm.Cond.code mq5 jdk_52_method_5_code 2 (some .char) :: ws) ({ frames := 0, cells := 0, slots := 0, locals := 0 } : Room)) (fun a U => a = #[(.ref a0), (.int p1)] ∧ Z.Warmed39 U.vm ∧ U.heap = h0) (fun _ _ _ _ _ => True) (fun _ U o U' => ∃ v L, o = .returned v ∧ Q21 Z a0 p1 kb zn us G1 w_sf h0 n0 v U'.heap L ∧ FrameEnd U o U' L ({ frames := 0, cells := 0, slots := 0, locals := 0 } : Room).cells ({ frames := 0, cells := 0, slots := 0, locals := 0 } : Room).slots) := by
  refine MetFree.of_bodySF (plainFor_of_name pn3) hisR ?_
  intro p e s m args below meth c s₁ Bd hml0 hP hK
  obtain ⟨rfl, hZ, hh⟩ := hP
  have hx := Bd.exec
  have hby := Bd.bytes
  have hml : c.maxLocals = 2 := hml0
  have hown : s.vm.findClass "java/lang/StringUTF16" = some m.cls := findClass_of_methodNamed Bd.named
  have hnm := (name_of_methodNamed Bd.named Bd.method).1
  have hk := Bd.notSynchronized
  have X0 : Stand p l e ({ frames := 0, cells := 0, slots := 0, locals := 0 } : Room) s m #[(.ref a0), (.int p1)] below meth c s₁ [] 0 0 := Stand.of_body Bd
  have hh2 := hh
  have e0 : s₁.heap = h0 := by rw [← hh, Bd.state]; rfl
  have N0 := Fr.nil n0
  show Gl p e below (Pos 0 0 (Q21 Z a0 p1 kb zn us G1 w_sf h0 n0) s) s₁ _
  refine Gl.cast (ef21 m a0 p1) ?_
  obtain ⟨T1, X1, e1, st1⟩ := getS2 X0 hx hZ hown (host := "") (Or.inl (hW hw 90 rfl)) Via.refl e0 (Sta.ext O.2 W.2.2.2.2.1) (g := (mkF m 0 #[vr a0, vi p1] [])) rfl (hb hby d21_0)
  refine gb (mkF m 3 #[vr a0, vi p1] [(.int 1)]) st1 ?_
  refine gb (mkF m 28 #[vr a0, vi p1] []) (fun _ k => XS.ifYes X1.here hx rfl (pc0 := 3) (pc' := 28) rfl (hb hby d21_3) rfl ((if0 _ _).trans (feq (by decide : ¬ ((1 : Int32) = (0 : Int32)))).2) (by decide) (by decide) k) ?_
  refine gb (mkF m 29 #[vr a0, vi p1] [(.int p1)]) (fun _ k => XS.iloadN X1.here hx rfl (hb hby d21_28) rfl k) ?_
  refine gb (mkF m 30 #[vr a0, vi p1] [(.int 1), (.int p1)]) (fun _ k => XS.iconst X1.here hx rfl (hb hby d21_29) k) ?_
  refine gb (mkF m 31 #[vr a0, vi p1] [(.int (p1 <<< ((1 : Int32) &&& 31)))]) (fun _ k => XS.ishl X1.here hx rfl (hb hby d21_30) rfl k) ?_
  refine gb (mkF m 32 #[vr a0, vi (p1 <<< ((1 : Int32) &&& 31))] []) (fun _ k => XS.istoreN X1.here hx rfl (hb hby d21_31) rfl (l' := #[vr a0, vi (p1 <<< ((1 : Int32) &&& 31))]) rfl k) ?_
  refine gb (mkF m 33 #[vr a0, vi (p1 <<< ((1 : Int32) &&& 31))] [(.ref a0)]) (fun _ k => XS.aloadN X1.here hx rfl (hb hby d21_32) rfl rfl k) ?_
  refine gb (mkF m 34 #[vr a0, vi (p1 <<< ((1 : Int32) &&& 31))] [(.int (p1 <<< ((1 : Int32) &&& 31))), (.ref a0)]) (fun _ k => XS.iloadN X1.here hx rfl (hb hby d21_33) rfl k) ?_
  refine gb (mkF m 37 #[vr a0, vi ((p1 <<< ((1 : Int32) &&& 31)) + (1 : Int32))] [(.int (p1 <<< ((1 : Int32) &&& 31))), (.ref a0)]) (fun _ k => XS.iinc X1.here hx rfl (hb hby d21_34) rfl (l' := #[vr a0, vi ((p1 <<< ((1 : Int32) &&& 31)) + (1 : Int32))]) rfl k) ?_
  obtain ⟨cl2, Ar2, qa2, Sa2, Na2, Ha2, Ga2⟩ := id pf0
  have hin3 : ¬ ((p1 <<< ((1 : Int32) &&& 31)) < 0 ∨ cl2.slots.size ≤ ((p1 <<< ((1 : Int32) &&& 31))).toNatClampNeg) := inb_of Sa2 hb1
  refine gb (mkF m 38 #[vr a0, vi ((p1 <<< ((1 : Int32) &&& 31)) + (1 : Int32))] [(.int (us.getD ((p1 <<< ((1 : Int32) &&& 31))).toNatClampNeg 0))]) (X1.baloadBytes hx (j := (p1 <<< ((1 : Int32) &&& 31))) (v := (.int (us.getD ((p1 <<< ((1 : Int32) &&& 31))).toNatClampNeg 0))) (by rw [e1]; exact Ar2.1) (State.isArrayOf_alike hZ.alike Ar2.2.1) Ar2.2.2 hin3 (Has.at Ha2 hin3 (getDI _ _)) (g := (mkF m 37 #[vr a0, vi ((p1 <<< ((1 : Int32) &&& 31)) + (1 : Int32))] [(.int (p1 <<< ((1 : Int32) &&& 31))), (.ref a0)])) rfl rfl (hb hby d21_37)) ?_
  refine gb (mkF m 41 #[vr a0, vi ((p1 <<< ((1 : Int32) &&& 31)) + (1 : Int32))] [(.int 255), (.int (us.getD ((p1 <<< ((1 : Int32) &&& 31))).toNatClampNeg 0))]) (fun _ k => XS.sipush X1.here hx rfl (hb hby d21_38) k) ?_
  refine gb (mkF m 42 #[vr a0, vi ((p1 <<< ((1 : Int32) &&& 31)) + (1 : Int32))] [(.int ((us.getD ((p1 <<< ((1 : Int32) &&& 31))).toNatClampNeg 0) &&& (255 : Int32)))]) (fun _ k => XS.iand X1.here hx rfl (hb hby d21_41) rfl k) ?_
  obtain ⟨T4, X4, e4, st4⟩ := getS2 X1 hx hZ hown (host := "") (Or.inl (hW hw 91 rfl)) Via.refl e1 (Sta.ext O.2 W.2.2.2.2.2.1) (g := (mkF m 42 #[vr a0, vi ((p1 <<< ((1 : Int32) &&& 31)) + (1 : Int32))] [(.int ((us.getD ((p1 <<< ((1 : Int32) &&& 31))).toNatClampNeg 0) &&& (255 : Int32)))])) rfl (hb hby d21_42)
  refine gb (mkF m 45 #[vr a0, vi ((p1 <<< ((1 : Int32) &&& 31)) + (1 : Int32))] [(.int 0), (.int ((us.getD ((p1 <<< ((1 : Int32) &&& 31))).toNatClampNeg 0) &&& (255 : Int32)))]) st4 ?_
  refine gb (mkF m 46 #[vr a0, vi ((p1 <<< ((1 : Int32) &&& 31)) + (1 : Int32))] [(.int (((us.getD ((p1 <<< ((1 : Int32) &&& 31))).toNatClampNeg 0) &&& (255 : Int32)) <<< ((0 : Int32) &&& 31)))]) (fun _ k => XS.ishl X4.here hx rfl (hb hby d21_45) rfl k) ?_
  refine gb (mkF m 47 #[vr a0, vi ((p1 <<< ((1 : Int32) &&& 31)) + (1 : Int32))] [(.ref a0), (.int (((us.getD ((p1 <<< ((1 : Int32) &&& 31))).toNatClampNeg 0) &&& (255 : Int32)) <<< ((0 : Int32) &&& 31)))]) (fun _ k => XS.aloadN X4.here hx rfl (hb hby d21_46) rfl rfl k) ?_
  refine gb (mkF m 48 #[vr a0, vi ((p1 <<< ((1 : Int32) &&& 31)) + (1 : Int32))] [(.int ((p1 <<< ((1 : Int32) &&& 31)) + (1 : Int32))), (.ref a0), (.int (((us.getD ((p1 <<< ((1 : Int32) &&& 31))).toNatClampNeg 0) &&& (255 : Int32)) <<< ((0 : Int32) &&& 31)))]) (fun _ k => XS.iloadN X4.here hx rfl (hb hby d21_47) rfl k) ?_
  obtain ⟨cl5, Ar5, qa5, Sa5, Na5, Ha5, Ga5⟩ := id pf0
  have hin6 : ¬ (((p1 <<< ((1 : Int32) &&& 31)) + (1 : Int32)) < 0 ∨ cl5.slots.size ≤ (((p1 <<< ((1 : Int32) &&& 31)) + (1 : Int32))).toNatClampNeg) := inb_of Sa5 hb2
  refine gb (mkF m 49 #[vr a0, vi ((p1 <<< ((1 : Int32) &&& 31)) + (1 : Int32))] [(.int (us.getD (((p1 <<< ((1 : Int32) &&& 31)) + (1 : Int32))).toNatClampNeg 0)), (.int (((us.getD ((p1 <<< ((1 : Int32) &&& 31))).toNatClampNeg 0) &&& (255 : Int32)) <<< ((0 : Int32) &&& 31)))]) (X4.baloadBytes hx (j := ((p1 <<< ((1 : Int32) &&& 31)) + (1 : Int32))) (v := (.int (us.getD (((p1 <<< ((1 : Int32) &&& 31)) + (1 : Int32))).toNatClampNeg 0))) (by rw [e4]; exact Ar5.1) (State.isArrayOf_alike hZ.alike Ar5.2.1) Ar5.2.2 hin6 (Has.at Ha5 hin6 (getDI _ _)) (g := (mkF m 48 #[vr a0, vi ((p1 <<< ((1 : Int32) &&& 31)) + (1 : Int32))] [(.int ((p1 <<< ((1 : Int32) &&& 31)) + (1 : Int32))), (.ref a0), (.int (((us.getD ((p1 <<< ((1 : Int32) &&& 31))).toNatClampNeg 0) &&& (255 : Int32)) <<< ((0 : Int32) &&& 31)))])) rfl rfl (hb hby d21_48)) ?_
  refine gb (mkF m 52 #[vr a0, vi ((p1 <<< ((1 : Int32) &&& 31)) + (1 : Int32))] [(.int 255), (.int (us.getD (((p1 <<< ((1 : Int32) &&& 31)) + (1 : Int32))).toNatClampNeg 0)), (.int (((us.getD ((p1 <<< ((1 : Int32) &&& 31))).toNatClampNeg 0) &&& (255 : Int32)) <<< ((0 : Int32) &&& 31)))]) (fun _ k => XS.sipush X4.here hx rfl (hb hby d21_49) k) ?_
  refine gb (mkF m 53 #[vr a0, vi ((p1 <<< ((1 : Int32) &&& 31)) + (1 : Int32))] [(.int ((us.getD (((p1 <<< ((1 : Int32) &&& 31)) + (1 : Int32))).toNatClampNeg 0) &&& (255 : Int32))), (.int (((us.getD ((p1 <<< ((1 : Int32) &&& 31))).toNatClampNeg 0) &&& (255 : Int32)) <<< ((0 : Int32) &&& 31)))]) (fun _ k => XS.iand X4.here hx rfl (hb hby d21_52) rfl k) ?_
  obtain ⟨T7, X7, e7, st7⟩ := getS2 X4 hx hZ hown (host := "") (Or.inl (hW hw 92 rfl)) Via.refl e4 (Sta.ext O.2 W.2.2.2.2.2.2) (g := (mkF m 53 #[vr a0, vi ((p1 <<< ((1 : Int32) &&& 31)) + (1 : Int32))] [(.int ((us.getD (((p1 <<< ((1 : Int32) &&& 31)) + (1 : Int32))).toNatClampNeg 0) &&& (255 : Int32))), (.int (((us.getD ((p1 <<< ((1 : Int32) &&& 31))).toNatClampNeg 0) &&& (255 : Int32)) <<< ((0 : Int32) &&& 31)))])) rfl (hb hby d21_53)
  refine gb (mkF m 56 #[vr a0, vi ((p1 <<< ((1 : Int32) &&& 31)) + (1 : Int32))] [(.int 8), (.int ((us.getD (((p1 <<< ((1 : Int32) &&& 31)) + (1 : Int32))).toNatClampNeg 0) &&& (255 : Int32))), (.int (((us.getD ((p1 <<< ((1 : Int32) &&& 31))).toNatClampNeg 0) &&& (255 : Int32)) <<< ((0 : Int32) &&& 31)))]) st7 ?_
  refine gb (mkF m 57 #[vr a0, vi ((p1 <<< ((1 : Int32) &&& 31)) + (1 : Int32))] [(.int (((us.getD (((p1 <<< ((1 : Int32) &&& 31)) + (1 : Int32))).toNatClampNeg 0) &&& (255 : Int32)) <<< ((8 : Int32) &&& 31))), (.int (((us.getD ((p1 <<< ((1 : Int32) &&& 31))).toNatClampNeg 0) &&& (255 : Int32)) <<< ((0 : Int32) &&& 31)))]) (fun _ k => XS.ishl X7.here hx rfl (hb hby d21_56) rfl k) ?_
  refine gb (mkF m 58 #[vr a0, vi ((p1 <<< ((1 : Int32) &&& 31)) + (1 : Int32))] [(.int ((((us.getD ((p1 <<< ((1 : Int32) &&& 31))).toNatClampNeg 0) &&& (255 : Int32)) <<< ((0 : Int32) &&& 31)) ||| (((us.getD (((p1 <<< ((1 : Int32) &&& 31)) + (1 : Int32))).toNatClampNeg 0) &&& (255 : Int32)) <<< ((8 : Int32) &&& 31))))]) (fun _ k => XS.ior X7.here hx rfl (hb hby d21_57) rfl k) ?_
  refine gb (mkF m 59 #[vr a0, vi ((p1 <<< ((1 : Int32) &&& 31)) + (1 : Int32))] [(.int (((((us.getD ((p1 <<< ((1 : Int32) &&& 31))).toNatClampNeg 0) &&& (255 : Int32)) <<< ((0 : Int32) &&& 31)) ||| (((us.getD (((p1 <<< ((1 : Int32) &&& 31)) + (1 : Int32))).toNatClampNeg 0) &&& (255 : Int32)) <<< ((8 : Int32) &&& 31))).toUInt32.toUInt16.toUInt32.toInt32))]) (fun _ k => XS.i2c X7.here hx rfl (hb hby d21_58) rfl k) ?_
  exact Gl.outN X7 hx hk (t := .char) Bd.returns (by simp) (hb hby d21_59) ⟨(congrArg (fun z => some (Value.int z)) (show nar .char (((((us.getD ((p1 <<< ((1 : Int32) &&& 31))).toNatClampNeg 0) &&& (255 : Int32)) <<< ((0 : Int32) &&& 31)) ||| (((us.getD (((p1 <<< ((1 : Int32) &&& 31)) + (1 : Int32))).toNatClampNeg 0) &&& (255 : Int32)) <<< ((8 : Int32) &&& 31))).toUInt32.toUInt16.toUInt32.toInt32) = fn21 p1 us G1 w_sf by unfold fn21; try rfl)), N0, e7⟩ (by decide) (by decide)
theorem d22_0 : decode jdk_52_method_83_code 0 = .ok (.iload_n 1, 1) := by decide +kernel
theorem d22_1 : decode jdk_52_method_83_code 1 = .ok (.aload_n 0, 1) := by decide +kernel
theorem d22_2 : decode jdk_52_method_83_code 2 = .ok (.invokestatic 67, 3) := by decide +kernel
theorem d22_5 : decode jdk_52_method_83_code 5 = .ok (.aload_n 0, 1) := by decide +kernel
theorem d22_6 : decode jdk_52_method_83_code 6 = .ok (.iload_n 1, 1) := by decide +kernel
theorem d22_7 : decode jdk_52_method_83_code 7 = .ok (.invokestatic 71, 3) := by decide +kernel
theorem d22_10 : decode jdk_52_method_83_code 10 = .ok (.ireturn, 1) := by decide +kernel
theorem pd68 : parseMethodDescriptor "(I[B)V" = some ⟨[.int, (.array .byte)], none⟩ := by decide +kernel
theorem pd69 : parseMethodDescriptor "([BI)C" = some ⟨[(.array .byte), .int], some .char⟩ := by decide +kernel
theorem ef22 (m : MethodId) (x0 : Addr) (x1 : Int32) : entryFrame m #[(.ref x0), (.int x1)] 2 = mkF m 0 #[.val (.ref x0), .val (.int x1)] [] := by first | (simp [entryFrame, mkF, argsToLocals, Value.category]; done) | rfl
def fn22 (p1 : Int32) (us : List Int32) (G1 : Int32) (w_sf : Value) : Int32 := (nar .char (fn21 p1 us G1 w_sf))
def Q22 (Z : State) (a0 : Addr) (p1 : Int32) (kb : ClassId) (zn : Int32) (us : List Int32) (G1 : Int32) (w_sf : Value) (h0 : Heap) (n0 : Nat) (v : Option Value) (h : Heap) (L : List Loc) : Prop := v = some (.int (fn22 p1 us G1 w_sf)) ∧ Fr n0 L ∧ h = h0
theorem rm22 (l : Launch) (Z : State) (a0' : Array Value) (hw : ∀ d ∈ tables_1, d.before a0' Z = true) (ws : List Jvm.Cond) (a0 : Addr) (p1 : Int32) (kb : ClassId) (zn : Int32) (us : List Int32) (G1 : Int32) (w_sf : Value) (h0 : Heap) (n0 : Nat) (O : Old Z n0 h0) (W : Wd Z G1 w_sf) (pf0 : Arv Z h0 a0 kb .byte zn (us.map Value.int) (.int 0)) (h1 : ¬ p1 < (0 : Int32)) (h2 : p1 < (zn >>> ((1 : Int32) &&& 31))) (hb1 : ¬ (p1 <<< ((1 : Int32) &&& 31)) < 0 ∧ (p1 <<< ((1 : Int32) &&& 31)) < zn) (hb2 : ¬ ((p1 <<< ((1 : Int32) &&& 31)) + (1 : Int32)) < 0 ∧ ((p1 <<< ((1 : Int32) &&& 31)) + (1 : Int32)) < zn) :
    MetFree l mq6 (head1 (Jvm.Cond.code mq6 jdk_52_method_83_code 2 (some .char) :: ws) ({ frames := 3, cells := 0, slots := 0, locals := 40 } : Room)) (fun a U => a = #[(.ref a0), (.int p1)] ∧ Z.Warmed39 U.vm ∧ U.heap = h0) (fun _ _ _ _ _ => True) (fun _ U o U' => ∃ v L, o = .returned v ∧ Q22 Z a0 p1 kb zn us G1 w_sf h0 n0 v U'.heap L ∧ FrameEnd U o U' L ({ frames := 3, cells := 0, slots := 0, locals := 40 } : Room).cells ({ frames := 3, cells := 0, slots := 0, locals := 40 } : Room).slots) := by
  refine MetFree.of_bodySF (plainFor_of_name pn3) hisR ?_
  intro p e s m args below meth c s₁ Bd hml0 hP hK
  obtain ⟨rfl, hZ, hh⟩ := hP
  have hx := Bd.exec
  have hby := Bd.bytes
  have hml : c.maxLocals = 2 := hml0
  have hown : s.vm.findClass "java/lang/StringUTF16" = some m.cls := findClass_of_methodNamed Bd.named
  have hnm := (name_of_methodNamed Bd.named Bd.method).1
  have hk := Bd.notSynchronized
  have X0 : Stand p l e ({ frames := 3, cells := 0, slots := 0, locals := 40 } : Room) s m #[(.ref a0), (.int p1)] below meth c s₁ [] 0 0 := Stand.of_body Bd
  have hh2 := hh
  have e0 : s₁.heap = h0 := by rw [← hh, Bd.state]; rfl
  have N0 := Fr.nil n0
  show Gl p e below (Pos 0 0 (Q22 Z a0 p1 kb zn us G1 w_sf h0 n0) s) s₁ _
  refine Gl.cast (ef22 m a0 p1) ?_
  refine gb (mkF m 1 #[vr a0, vi p1] [(.int p1)]) (fun _ k => XS.iloadN X0.here hx rfl (hb hby d22_0) rfl k) ?_
  refine gb (mkF m 2 #[vr a0, vi p1] [(.ref a0), (.int p1)]) (fun _ k => XS.aloadN X0.here hx rfl (hb hby d22_1) rfl rfl k) ?_
  obtain ⟨_, _, ⟨T1, L1, k1, n1⟩, -, X1, ⟨Lc1, hQ1, l1, y1, z1⟩, st1⟩ := callS X0 hx (y := mq4) hown (mvT hZ (hW hw 99 rfl)) (mvT hZ (hW hw 100 rfl)) (mvT hZ (hW hw 47 rfl)) (mvT hZ (hW hw 101 rfl)) (by decide) (backOf (W := 0) (rm23 l Z a0' hw [] p1 a0 kb (us.map Value.int) zn G1 w_sf h0 n0 O W pf0 h1 h2) hZ (hW hw 101 rfl) (hW hw 47 rfl) (by decide) (by decide)) (g := (mkF m 2 #[vr a0, vi p1] [(.ref a0), (.int p1)])) rfl (by rw [hml]; rfl) (argsL := [(.int p1), (.ref a0)]) (rest := []) (lenOf pd68 rfl) rfl (Nat.le_of_eq rfl) (hb hby d22_2) (fun _ _ => ⟨rfl, e0, (by decide : 0 + 0 ≤ _), (by decide : 0 + 0 ≤ _)⟩)
  dsimp only [Pt.U, Pt.locs, Pt.cells, Pt.slots] at X1 l1 y1 z1 st1 hQ1
  subst l1 y1 z1
  obtain ⟨rfl, N1q, e1⟩ := hQ1
  have N1 := Fr.app N0 N1q
  refine gb (mkF m 5 #[vr a0, vi p1] []) st1 ?_
  refine gb (mkF m 6 #[vr a0, vi p1] [(.ref a0)]) (fun _ k => XS.aloadN X1.here hx rfl (hb hby d22_5) rfl rfl k) ?_
  refine gb (mkF m 7 #[vr a0, vi p1] [(.int p1), (.ref a0)]) (fun _ k => XS.iloadN X1.here hx rfl (hb hby d22_6) rfl k) ?_
  obtain ⟨_, _, ⟨T2, L2, k2, n2⟩, -, X2, ⟨Lc2, hQ2, l2, y2, z2⟩, st2⟩ := callS X1 hx (y := mq5) hown (mvT hZ (hW hw 93 rfl)) (mvT hZ (hW hw 94 rfl)) (mvT hZ (hW hw 47 rfl)) (mvT hZ (hW hw 95 rfl)) (by decide) (backOf (W := 0) (rm21 l Z a0' hw [] a0 p1 kb zn us G1 w_sf h0 n0 O W pf0 hb1 hb2) hZ (hW hw 95 rfl) (hW hw 47 rfl) (by decide) (by decide)) (g := (mkF m 7 #[vr a0, vi p1] [(.int p1), (.ref a0)])) rfl (by rw [hml]; rfl) (argsL := [(.ref a0), (.int p1)]) (rest := []) (lenOf pd69 rfl) rfl (Nat.le_of_eq rfl) (hb hby d22_7) (fun _ _ => ⟨rfl, e1, (by decide : 0 + 0 ≤ _), (by decide : 0 + 0 ≤ _)⟩)
  dsimp only [Pt.U, Pt.locs, Pt.cells, Pt.slots] at X2 l2 y2 z2 st2 hQ2
  subst l2 y2 z2
  obtain ⟨rfl, N2q, e2⟩ := hQ2
  have N2 := Fr.app N1 N2q
  refine gb (mkF m 10 #[vr a0, vi p1] [(.int (fn21 p1 us G1 w_sf))]) st2 ?_
  exact Gl.outN X2 hx hk (t := .char) Bd.returns (by simp) (hb hby d22_10) ⟨(congrArg (fun z => some (Value.int z)) (show nar .char (fn21 p1 us G1 w_sf) = fn22 p1 us G1 w_sf by unfold fn22; try rfl)), N2, e2⟩ (by decide) (by decide)
theorem d7_0 : decode jdk_42_method_152_code 0 = .ok (.getstatic 38, 3) := by decide +kernel
theorem d7_3 : decode jdk_42_method_152_code 3 = .ok (.ifCond .eq 10, 3) := by decide +kernel
theorem d7_6 : decode jdk_42_method_152_code 6 = .ok (.aload_n 0, 1) := by decide +kernel
theorem d7_7 : decode jdk_42_method_152_code 7 = .ok (.getfield 15, 3) := by decide +kernel
theorem d7_10 : decode jdk_42_method_152_code 10 = .ok (.goto 4, 3) := by decide +kernel
theorem d7_14 : decode jdk_42_method_152_code 14 = .ok (.ireturn, 1) := by decide +kernel
theorem ef7 (m : MethodId) (x0 : Addr) : entryFrame m #[(.ref x0)] 1 = mkF m 0 #[.val (.ref x0)] [] := by first | (simp [entryFrame, mkF, argsToLocals, Value.category]; done) | rfl
def Q7 (Z : State) (a0 : Addr) (cd : Int32) (G1 : Int32) (w_sf : Value) (h0 : Heap) (n0 : Nat) (v : Option Value) (h : Heap) (L : List Loc) : Prop := v = some (.int (cd.toInt8.toInt32)) ∧ Fr n0 L ∧ h = h0
theorem rm7 (l : Launch) (Z : State) (a0' : Array Value) (hw : ∀ d ∈ tables_1, d.before a0' Z = true) (ws : List Jvm.Cond) (a0 : Addr) (cd : Int32) (G1 : Int32) (w_sf : Value) (h0 : Heap) (n0 : Nat) (O : Old Z n0 h0) (W : Wd Z G1 w_sf) (pf0 : Exa Z h0 a0 "java/lang/String") (pf1 : Fld Z h0 a0 "java/lang/String" "coder" "B" (.int cd)) :
    MetFree l mq7 (head1 (Jvm.Cond.code mq7 jdk_42_method_152_code 1 (some .byte) :: ws) ({ frames := 0, cells := 0, slots := 0, locals := 0 } : Room)) (fun a U => a = #[(.ref a0)] ∧ Z.Warmed39 U.vm ∧ U.heap = h0) (fun _ _ _ _ _ => True) (fun _ U o U' => ∃ v L, o = .returned v ∧ Q7 Z a0 cd G1 w_sf h0 n0 v U'.heap L ∧ FrameEnd U o U' L ({ frames := 0, cells := 0, slots := 0, locals := 0 } : Room).cells ({ frames := 0, cells := 0, slots := 0, locals := 0 } : Room).slots) := by
  refine MetFree.of_bodySF (plainFor_of_name pn1) hisR ?_
  intro p e s m args below meth c s₁ Bd hml0 hP hK
  obtain ⟨rfl, hZ, hh⟩ := hP
  have hx := Bd.exec
  have hby := Bd.bytes
  have hml : c.maxLocals = 1 := hml0
  have hown : s.vm.findClass "java/lang/String" = some m.cls := findClass_of_methodNamed Bd.named
  have hnm := (name_of_methodNamed Bd.named Bd.method).1
  have hk := Bd.notSynchronized
  have X0 : Stand p l e ({ frames := 0, cells := 0, slots := 0, locals := 0 } : Room) s m #[(.ref a0)] below meth c s₁ [] 0 0 := Stand.of_body Bd
  have hh2 := hh
  have e0 : s₁.heap = h0 := by rw [← hh, Bd.state]; rfl
  have N0 := Fr.nil n0
  show Gl p e below (Pos 0 0 (Q7 Z a0 cd G1 w_sf h0 n0) s) s₁ _
  refine Gl.cast (ef7 m a0) ?_
  obtain ⟨T1, X1, e1, st1⟩ := getS2 X0 hx hZ hown (host := "") (Or.inl (hW hw 41 rfl)) Via.refl e0 (Sta.ext O.2 W.1) (g := (mkF m 0 #[vr a0] [])) rfl (hb hby d7_0)
  refine gb (mkF m 3 #[vr a0] [(.int G1)]) st1 ?_
  refine gb (mkF m 6 #[vr a0] []) (fun _ k => XS.ifNo X1.here hx rfl (hb hby d7_3) rfl ((if0 _ _).trans (feq W.2.1).1) k) ?_
  refine gb (mkF m 7 #[vr a0] [(.ref a0)]) (fun _ k => XS.aloadN X1.here hx rfl (hb hby d7_6) rfl rfl k) ?_
  obtain ⟨T2, X2, e2, st2⟩ := getF X1 hx hZ hown (host := "") (Or.inl (hW hw 26 rfl)) Via.refl e1 pf1 (g := (mkF m 7 #[vr a0] [(.ref a0)])) rfl rfl (hb hby d7_7)
  refine gb (mkF m 10 #[vr a0] [(.int cd)]) st2 ?_
  refine gb (mkF m 14 #[vr a0] [(.int cd)]) (fun _ k => XS.goto X2.here hx rfl (pc0 := 10) (pc' := 14) rfl (hb hby d7_10) (by decide) (by decide) k) ?_
  exact Gl.outN X2 hx hk (t := .byte) Bd.returns (by simp) (hb hby d7_14) ⟨rfl, N0, e2⟩ (by decide) (by decide)
theorem d13_0 : decode jdk_42_method_154_code 0 = .ok (.getstatic 38, 3) := by decide +kernel
theorem d13_3 : decode jdk_42_method_154_code 3 = .ok (.ifCond .eq 14, 3) := by decide +kernel
theorem d13_6 : decode jdk_42_method_154_code 6 = .ok (.aload_n 0, 1) := by decide +kernel
theorem d13_7 : decode jdk_42_method_154_code 7 = .ok (.getfield 15, 3) := by decide +kernel
theorem d13_10 : decode jdk_42_method_154_code 10 = .ok (.ifCond .ne 7, 3) := by decide +kernel
theorem d13_13 : decode jdk_42_method_154_code 13 = .ok (.iconst 1, 1) := by decide +kernel
theorem d13_14 : decode jdk_42_method_154_code 14 = .ok (.goto 4, 3) := by decide +kernel
theorem d13_18 : decode jdk_42_method_154_code 18 = .ok (.ireturn, 1) := by decide +kernel
theorem ef130 (m : MethodId) (x0 : Addr) : entryFrame m #[(.ref x0)] 1 = mkF m 0 #[.val (.ref x0)] [] := by first | (simp [entryFrame, mkF, argsToLocals, Value.category]; done) | rfl
def Q130 (Z : State) (a0 : Addr) (G1 : Int32) (w_sf : Value) (h0 : Heap) (n0 : Nat) (v : Option Value) (h : Heap) (L : List Loc) : Prop := v = some (.int 1) ∧ Fr n0 L ∧ h = h0
theorem rm130 (l : Launch) (Z : State) (a0' : Array Value) (hw : ∀ d ∈ tables_1, d.before a0' Z = true) (ws : List Jvm.Cond) (a0 : Addr) (G1 : Int32) (w_sf : Value) (h0 : Heap) (n0 : Nat) (O : Old Z n0 h0) (W : Wd Z G1 w_sf) (pf0 : Exa Z h0 a0 "java/lang/String") (pf1 : Fld Z h0 a0 "java/lang/String" "coder" "B" (.int 0)) :
    MetFree l mq8 (head1 (Jvm.Cond.code mq8 jdk_42_method_154_code 1 (some .boolean) :: ws) ({ frames := 0, cells := 0, slots := 0, locals := 0 } : Room)) (fun a U => a = #[(.ref a0)] ∧ Z.Warmed39 U.vm ∧ U.heap = h0) (fun _ _ _ _ _ => True) (fun _ U o U' => ∃ v L, o = .returned v ∧ Q130 Z a0 G1 w_sf h0 n0 v U'.heap L ∧ FrameEnd U o U' L ({ frames := 0, cells := 0, slots := 0, locals := 0 } : Room).cells ({ frames := 0, cells := 0, slots := 0, locals := 0 } : Room).slots) := by
  refine MetFree.of_bodySF (plainFor_of_name pn1) hisR ?_
  intro p e s m args below meth c s₁ Bd hml0 hP hK
  obtain ⟨rfl, hZ, hh⟩ := hP
  have hx := Bd.exec
  have hby := Bd.bytes
  have hml : c.maxLocals = 1 := hml0
  have hown : s.vm.findClass "java/lang/String" = some m.cls := findClass_of_methodNamed Bd.named
  have hnm := (name_of_methodNamed Bd.named Bd.method).1
  have hk := Bd.notSynchronized
  have X0 : Stand p l e ({ frames := 0, cells := 0, slots := 0, locals := 0 } : Room) s m #[(.ref a0)] below meth c s₁ [] 0 0 := Stand.of_body Bd
  have hh2 := hh
  have e0 : s₁.heap = h0 := by rw [← hh, Bd.state]; rfl
  have N0 := Fr.nil n0
  show Gl p e below (Pos 0 0 (Q130 Z a0 G1 w_sf h0 n0) s) s₁ _
  refine Gl.cast (ef130 m a0) ?_
  obtain ⟨T1, X1, e1, st1⟩ := getS2 X0 hx hZ hown (host := "") (Or.inl (hW hw 41 rfl)) Via.refl e0 (Sta.ext O.2 W.1) (g := (mkF m 0 #[vr a0] [])) rfl (hb hby d13_0)
  refine gb (mkF m 3 #[vr a0] [(.int G1)]) st1 ?_
  refine gb (mkF m 6 #[vr a0] []) (fun _ k => XS.ifNo X1.here hx rfl (hb hby d13_3) rfl ((if0 _ _).trans (feq W.2.1).1) k) ?_
  refine gb (mkF m 7 #[vr a0] [(.ref a0)]) (fun _ k => XS.aloadN X1.here hx rfl (hb hby d13_6) rfl rfl k) ?_
  obtain ⟨T2, X2, e2, st2⟩ := getF X1 hx hZ hown (host := "") (Or.inl (hW hw 26 rfl)) Via.refl e1 pf1 (g := (mkF m 7 #[vr a0] [(.ref a0)])) rfl rfl (hb hby d13_7)
  refine gb (mkF m 10 #[vr a0] [(.int 0)]) st2 ?_
  refine gb (mkF m 13 #[vr a0] []) (fun _ k => XS.ifNo X2.here hx rfl (hb hby d13_10) rfl ((if0 _ _).trans (teq (by decide : (0 : Int32) = (0 : Int32))).2) k) ?_
  refine gb (mkF m 14 #[vr a0] [(.int 1)]) (fun _ k => XS.iconst X2.here hx rfl (hb hby d13_13) k) ?_
  refine gb (mkF m 18 #[vr a0] [(.int 1)]) (fun _ k => XS.goto X2.here hx rfl (pc0 := 14) (pc' := 18) rfl (hb hby d13_14) (by decide) (by decide) k) ?_
  exact Gl.outN X2 hx hk (t := .boolean) Bd.returns (by simp) (hb hby d13_18) ⟨(congrArg (fun z => some (Value.int z)) (by decide : nar .boolean (1 : Int32) = (1 : Int32))), N0, e2⟩ (by decide) (by decide)
theorem d13_17 : decode jdk_42_method_154_code 17 = .ok (.iconst 0, 1) := by decide +kernel
theorem ef131 (m : MethodId) (x0 : Addr) : entryFrame m #[(.ref x0)] 1 = mkF m 0 #[.val (.ref x0)] [] := by first | (simp [entryFrame, mkF, argsToLocals, Value.category]; done) | rfl
def Q131 (Z : State) (a0 : Addr) (G1 : Int32) (w_sf : Value) (h0 : Heap) (n0 : Nat) (v : Option Value) (h : Heap) (L : List Loc) : Prop := v = some (.int 0) ∧ Fr n0 L ∧ h = h0
theorem rm131 (l : Launch) (Z : State) (a0' : Array Value) (hw : ∀ d ∈ tables_1, d.before a0' Z = true) (ws : List Jvm.Cond) (a0 : Addr) (G1 : Int32) (w_sf : Value) (h0 : Heap) (n0 : Nat) (O : Old Z n0 h0) (W : Wd Z G1 w_sf) (pf0 : Exa Z h0 a0 "java/lang/String") (pf1 : Fld Z h0 a0 "java/lang/String" "coder" "B" (.int 1)) :
    MetFree l mq8 (head1 (Jvm.Cond.code mq8 jdk_42_method_154_code 1 (some .boolean) :: ws) ({ frames := 0, cells := 0, slots := 0, locals := 0 } : Room)) (fun a U => a = #[(.ref a0)] ∧ Z.Warmed39 U.vm ∧ U.heap = h0) (fun _ _ _ _ _ => True) (fun _ U o U' => ∃ v L, o = .returned v ∧ Q131 Z a0 G1 w_sf h0 n0 v U'.heap L ∧ FrameEnd U o U' L ({ frames := 0, cells := 0, slots := 0, locals := 0 } : Room).cells ({ frames := 0, cells := 0, slots := 0, locals := 0 } : Room).slots) := by
  refine MetFree.of_bodySF (plainFor_of_name pn1) hisR ?_
  intro p e s m args below meth c s₁ Bd hml0 hP hK
  obtain ⟨rfl, hZ, hh⟩ := hP
  have hx := Bd.exec
  have hby := Bd.bytes
  have hml : c.maxLocals = 1 := hml0
  have hown : s.vm.findClass "java/lang/String" = some m.cls := findClass_of_methodNamed Bd.named
  have hnm := (name_of_methodNamed Bd.named Bd.method).1
  have hk := Bd.notSynchronized
  have X0 : Stand p l e ({ frames := 0, cells := 0, slots := 0, locals := 0 } : Room) s m #[(.ref a0)] below meth c s₁ [] 0 0 := Stand.of_body Bd
  have hh2 := hh
  have e0 : s₁.heap = h0 := by rw [← hh, Bd.state]; rfl
  have N0 := Fr.nil n0
  show Gl p e below (Pos 0 0 (Q131 Z a0 G1 w_sf h0 n0) s) s₁ _
  refine Gl.cast (ef131 m a0) ?_
  obtain ⟨T1, X1, e1, st1⟩ := getS2 X0 hx hZ hown (host := "") (Or.inl (hW hw 41 rfl)) Via.refl e0 (Sta.ext O.2 W.1) (g := (mkF m 0 #[vr a0] [])) rfl (hb hby d13_0)
  refine gb (mkF m 3 #[vr a0] [(.int G1)]) st1 ?_
  refine gb (mkF m 6 #[vr a0] []) (fun _ k => XS.ifNo X1.here hx rfl (hb hby d13_3) rfl ((if0 _ _).trans (feq W.2.1).1) k) ?_
  refine gb (mkF m 7 #[vr a0] [(.ref a0)]) (fun _ k => XS.aloadN X1.here hx rfl (hb hby d13_6) rfl rfl k) ?_
  obtain ⟨T2, X2, e2, st2⟩ := getF X1 hx hZ hown (host := "") (Or.inl (hW hw 26 rfl)) Via.refl e1 pf1 (g := (mkF m 7 #[vr a0] [(.ref a0)])) rfl rfl (hb hby d13_7)
  refine gb (mkF m 10 #[vr a0] [(.int 1)]) st2 ?_
  refine gb (mkF m 17 #[vr a0] []) (fun _ k => XS.ifYes X2.here hx rfl (pc0 := 10) (pc' := 17) rfl (hb hby d13_10) rfl ((if0 _ _).trans (feq (by decide : ¬ ((1 : Int32) = (0 : Int32)))).2) (by decide) (by decide) k) ?_
  refine gb (mkF m 18 #[vr a0] [(.int 0)]) (fun _ k => XS.iconst X2.here hx rfl (hb hby d13_17) k) ?_
  exact Gl.outN X2 hx hk (t := .boolean) Bd.returns (by simp) (hb hby d13_18) ⟨(congrArg (fun z => some (Value.int z)) (by decide : nar .boolean (0 : Int32) = (0 : Int32))), N0, e2⟩ (by decide) (by decide)
theorem d6_0 : decode jdk_42_method_54_code 0 = .ok (.aload_n 0, 1) := by decide +kernel
theorem d6_1 : decode jdk_42_method_54_code 1 = .ok (.getfield 9, 3) := by decide +kernel
theorem d6_4 : decode jdk_42_method_54_code 4 = .ok (.arraylength, 1) := by decide +kernel
theorem d6_5 : decode jdk_42_method_54_code 5 = .ok (.aload_n 0, 1) := by decide +kernel
theorem d6_6 : decode jdk_42_method_54_code 6 = .ok (.invokevirtual 335, 3) := by decide +kernel
theorem d6_9 : decode jdk_42_method_54_code 9 = .ok (.ishr, 1) := by decide +kernel
theorem d6_10 : decode jdk_42_method_54_code 10 = .ok (.ireturn, 1) := by decide +kernel
theorem pd92 : parseMethodDescriptor "()B" = some ⟨[], some .byte⟩ := by decide +kernel
theorem ef6 (m : MethodId) (x0 : Addr) : entryFrame m #[(.ref x0)] 1 = mkF m 0 #[.val (.ref x0)] [] := by first | (simp [entryFrame, mkF, argsToLocals, Value.category]; done) | rfl
def Q6 (Z : State) (a0 : Addr) (b : Addr) (cd : Int32) (kb : ClassId) (vv : List Value) (zn : Int32) (G1 : Int32) (w_sf : Value) (h0 : Heap) (n0 : Nat) (v : Option Value) (h : Heap) (L : List Loc) : Prop := v = some (.int (zn >>> ((cd.toInt8.toInt32) &&& 31))) ∧ Fr n0 L ∧ h = h0
theorem rm6 (l : Launch) (Z : State) (a0' : Array Value) (hw : ∀ d ∈ tables_1, d.before a0' Z = true) (ws : List Jvm.Cond) (a0 : Addr) (b : Addr) (cd : Int32) (kb : ClassId) (vv : List Value) (zn : Int32) (G1 : Int32) (w_sf : Value) (h0 : Heap) (n0 : Nat) (O : Old Z n0 h0) (W : Wd Z G1 w_sf) (pf0 : Exa Z h0 a0 "java/lang/String") (pf1 : Fld Z h0 a0 "java/lang/String" "value" "[B" (.ref b)) (pf2 : Fld Z h0 a0 "java/lang/String" "coder" "B" (.int cd)) (pf3 : Arv Z h0 b kb .byte zn vv (.int 0)) :
    MetFree l mq9 (head1 (Jvm.Cond.code mq9 jdk_42_method_54_code 1 (some .int) :: ws) ({ frames := 1, cells := 0, slots := 0, locals := 13 } : Room)) (fun a U => a = #[(.ref a0)] ∧ Z.Warmed39 U.vm ∧ U.heap = h0) (fun _ _ _ _ _ => True) (fun _ U o U' => ∃ v L, o = .returned v ∧ Q6 Z a0 b cd kb vv zn G1 w_sf h0 n0 v U'.heap L ∧ FrameEnd U o U' L ({ frames := 1, cells := 0, slots := 0, locals := 13 } : Room).cells ({ frames := 1, cells := 0, slots := 0, locals := 13 } : Room).slots) := by
  refine MetFree.of_bodySF (plainFor_of_name pn1) hisR ?_
  intro p e s m args below meth c s₁ Bd hml0 hP hK
  obtain ⟨rfl, hZ, hh⟩ := hP
  have hx := Bd.exec
  have hby := Bd.bytes
  have hml : c.maxLocals = 1 := hml0
  have hown : s.vm.findClass "java/lang/String" = some m.cls := findClass_of_methodNamed Bd.named
  have hnm := (name_of_methodNamed Bd.named Bd.method).1
  have hk := Bd.notSynchronized
  have X0 : Stand p l e ({ frames := 1, cells := 0, slots := 0, locals := 13 } : Room) s m #[(.ref a0)] below meth c s₁ [] 0 0 := Stand.of_body Bd
  have hh2 := hh
  have e0 : s₁.heap = h0 := by rw [← hh, Bd.state]; rfl
  have N0 := Fr.nil n0
  show Gl p e below (Pos 0 0 (Q6 Z a0 b cd kb vv zn G1 w_sf h0 n0) s) s₁ _
  refine Gl.cast (ef6 m a0) ?_
  refine gb (mkF m 1 #[vr a0] [(.ref a0)]) (fun _ k => XS.aloadN X0.here hx rfl (hb hby d6_0) rfl rfl k) ?_
  obtain ⟨T1, X1, e1, st1⟩ := getF X0 hx hZ hown (host := "") (Or.inl (hW hw 25 rfl)) Via.refl e0 pf1 (g := (mkF m 1 #[vr a0] [(.ref a0)])) rfl rfl (hb hby d6_1)
  refine gb (mkF m 4 #[vr a0] [(.ref b)]) st1 ?_
  obtain ⟨cl2, Ar2, qa2, Sa2, Na2, Ha2, Ga2⟩ := id pf3
  refine gb (mkF m 5 #[vr a0] [(.int zn)]) (fun t k => X1.arraylength hx (by rw [e1]; exact Ar2.1) (State.isArrayOf_alike hZ.alike Ar2.2.1) (g := (mkF m 4 #[vr a0] [(.ref b)])) rfl rfl (hb hby d6_4) t (by rw [len_of Sa2 Na2]; exact k)) ?_
  refine gb (mkF m 6 #[vr a0] [(.ref a0), (.int zn)]) (fun _ k => XS.aloadN X1.here hx rfl (hb hby d6_5) rfl rfl k) ?_
  obtain ⟨cq3, kq3, q3a, q3b, q3c⟩ := isOf hZ e1 pf0
  obtain ⟨_, _, ⟨T3, L3, k3, n3⟩, -, X3, ⟨Lc3, hQ3, l3, y3, z3⟩, st3⟩ := X1.virtualBack hx (y := mq7) (z := mq7) hown (mvT hZ (hW hw 36 rfl)) (mvT hZ (hW hw 37 rfl)) (notFace_of_selects (args := #[]) (mvT hZ (hW hw 39 rfl))) (mvT hZ (hW hw 39 rfl)) (mvT hZ (hW hw 38 rfl)) (by decide) (backOf (W := 1) (rm7 l Z a0' hw [] a0 cd G1 w_sf h0 n0 O W pf0 pf2) hZ (hW hw 40 rfl) (hW hw 8 rfl) (by decide) (by decide)) q3a q3c (g := (mkF m 6 #[vr a0] [(.ref a0), (.int zn)])) rfl (by rw [hml]; rfl) (Steps.refl _) (argsL := []) (rest := [(.int zn)]) (lenOf pd92 rfl) rfl (Nat.le_of_eq rfl) (hb hby d6_6) (fun _ _ => ⟨rfl, e1, (by decide : 0 + 0 ≤ _), (by decide : 0 + 0 ≤ _)⟩)
  dsimp only [Pt.U, Pt.locs, Pt.cells, Pt.slots] at X3 l3 y3 z3 st3 hQ3
  subst l3 y3 z3
  obtain ⟨rfl, N3q, e3⟩ := hQ3
  have N3 := Fr.app N0 N3q
  refine gb (mkF m 9 #[vr a0] [(.int (cd.toInt8.toInt32)), (.int zn)]) (fun _ k => st3.trans k) ?_
  refine gb (mkF m 10 #[vr a0] [(.int (zn >>> ((cd.toInt8.toInt32) &&& 31)))]) (fun _ k => XS.ishr X3.here hx rfl (hb hby d6_9) rfl k) ?_
  exact Gl.outI X3 hx hk Bd.returns (hb hby d6_10) ⟨rfl, N3, e3⟩ (by decide) (by decide)
theorem d12_0 : decode jdk_42_method_56_code 0 = .ok (.aload_n 0, 1) := by decide +kernel
theorem d12_1 : decode jdk_42_method_56_code 1 = .ok (.invokevirtual 492, 3) := by decide +kernel
theorem d12_4 : decode jdk_42_method_56_code 4 = .ok (.ifCond .eq 12, 3) := by decide +kernel
theorem d12_7 : decode jdk_42_method_56_code 7 = .ok (.aload_n 0, 1) := by decide +kernel
theorem d12_8 : decode jdk_42_method_56_code 8 = .ok (.getfield 9, 3) := by decide +kernel
theorem d12_11 : decode jdk_42_method_56_code 11 = .ok (.iload_n 1, 1) := by decide +kernel
theorem d12_12 : decode jdk_42_method_56_code 12 = .ok (.invokestatic 495, 3) := by decide +kernel
theorem d12_15 : decode jdk_42_method_56_code 15 = .ok (.ireturn, 1) := by decide +kernel
theorem pd101 : parseMethodDescriptor "()Z" = some ⟨[], some .boolean⟩ := by decide +kernel
theorem ef12A (m : MethodId) (x0 : Addr) (x1 : Int32) : entryFrame m #[(.ref x0), (.int x1)] 2 = mkF m 0 #[.val (.ref x0), .val (.int x1)] [] := by first | (simp [entryFrame, mkF, argsToLocals, Value.category]; done) | rfl
def fn12A (p1 : Int32) (us : List Int32) (G1 : Int32) (w_sf : Value) : Int32 := (nar .char (fn14 p1 us G1 w_sf))
def Q12A (Z : State) (a0 : Addr) (p1 : Int32) (b : Addr) (kb : ClassId) (zn : Int32) (us : List Int32) (G1 : Int32) (w_sf : Value) (h0 : Heap) (n0 : Nat) (v : Option Value) (h : Heap) (L : List Loc) : Prop := v = some (.int (fn12A p1 us G1 w_sf)) ∧ Fr n0 L ∧ h = h0
theorem rm12A (l : Launch) (Z : State) (a0' : Array Value) (hw : ∀ d ∈ tables_1, d.before a0' Z = true) (ws : List Jvm.Cond) (a0 : Addr) (p1 : Int32) (b : Addr) (kb : ClassId) (zn : Int32) (us : List Int32) (G1 : Int32) (w_sf : Value) (h0 : Heap) (n0 : Nat) (O : Old Z n0 h0) (W : Wd Z G1 w_sf) (pf0 : Exa Z h0 a0 "java/lang/String") (pf1 : Fld Z h0 a0 "java/lang/String" "value" "[B" (.ref b)) (pf2 : Fld Z h0 a0 "java/lang/String" "coder" "B" (.int 0)) (pf3 : Arv Z h0 b kb .byte zn (us.map Value.int) (.int 0)) (h1 : ¬ p1 < (0 : Int32)) (h2 : p1 < zn) :
    MetFree l mq10 (head1 (Jvm.Cond.code mq10 jdk_42_method_56_code 2 (some .char) :: ws) ({ frames := 3, cells := 0, slots := 0, locals := 40 } : Room)) (fun a U => a = #[(.ref a0), (.int p1)] ∧ Z.Warmed39 U.vm ∧ U.heap = h0) (fun _ _ _ _ _ => True) (fun _ U o U' => ∃ v L, o = .returned v ∧ Q12A Z a0 p1 b kb zn us G1 w_sf h0 n0 v U'.heap L ∧ FrameEnd U o U' L ({ frames := 3, cells := 0, slots := 0, locals := 40 } : Room).cells ({ frames := 3, cells := 0, slots := 0, locals := 40 } : Room).slots) := by
  refine MetFree.of_bodySF (plainFor_of_name pn1) hisR ?_
  intro p e s m args below meth c s₁ Bd hml0 hP hK
  obtain ⟨rfl, hZ, hh⟩ := hP
  have hx := Bd.exec
  have hby := Bd.bytes
  have hml : c.maxLocals = 2 := hml0
  have hown : s.vm.findClass "java/lang/String" = some m.cls := findClass_of_methodNamed Bd.named
  have hnm := (name_of_methodNamed Bd.named Bd.method).1
  have hk := Bd.notSynchronized
  have X0 : Stand p l e ({ frames := 3, cells := 0, slots := 0, locals := 40 } : Room) s m #[(.ref a0), (.int p1)] below meth c s₁ [] 0 0 := Stand.of_body Bd
  have hh2 := hh
  have e0 : s₁.heap = h0 := by rw [← hh, Bd.state]; rfl
  have N0 := Fr.nil n0
  show Gl p e below (Pos 0 0 (Q12A Z a0 p1 b kb zn us G1 w_sf h0 n0) s) s₁ _
  refine Gl.cast (ef12A m a0 p1) ?_
  refine gb (mkF m 1 #[vr a0, vi p1] [(.ref a0)]) (fun _ k => XS.aloadN X0.here hx rfl (hb hby d12_0) rfl rfl k) ?_
  obtain ⟨cq1, kq1, q1a, q1b, q1c⟩ := isOf hZ e0 pf0
  obtain ⟨_, _, ⟨T1, L1, k1, n1⟩, -, X1, ⟨Lc1, hQ1, l1, y1, z1⟩, st1⟩ := X0.virtualBack hx (y := mq8) (z := mq8) hown (mvT hZ (hW hw 60 rfl)) (mvT hZ (hW hw 61 rfl)) (notFace_of_selects (args := #[]) (mvT hZ (hW hw 63 rfl))) (mvT hZ (hW hw 63 rfl)) (mvT hZ (hW hw 62 rfl)) (by decide) (backOf (W := 0) (rm130 l Z a0' hw [] a0 G1 w_sf h0 n0 O W pf0 pf2) hZ (hW hw 64 rfl) (hW hw 8 rfl) (by decide) (by decide)) q1a q1c (g := (mkF m 1 #[vr a0, vi p1] [(.ref a0)])) rfl (by rw [hml]; rfl) (Steps.refl _) (argsL := []) (rest := []) (lenOf pd101 rfl) rfl (Nat.le_of_eq rfl) (hb hby d12_1) (fun _ _ => ⟨rfl, e0, (by decide : 0 + 0 ≤ _), (by decide : 0 + 0 ≤ _)⟩)
  dsimp only [Pt.U, Pt.locs, Pt.cells, Pt.slots] at X1 l1 y1 z1 st1 hQ1
  subst l1 y1 z1
  obtain ⟨rfl, N1q, e1⟩ := hQ1
  have N1 := Fr.app N0 N1q
  refine gb (mkF m 4 #[vr a0, vi p1] [(.int 1)]) (fun _ k => st1.trans k) ?_
  refine gb (mkF m 7 #[vr a0, vi p1] []) (fun _ k => XS.ifNo X1.here hx rfl (hb hby d12_4) rfl ((if0 _ _).trans (feq (by decide : ¬ ((1 : Int32) = (0 : Int32)))).1) k) ?_
  refine gb (mkF m 8 #[vr a0, vi p1] [(.ref a0)]) (fun _ k => XS.aloadN X1.here hx rfl (hb hby d12_7) rfl rfl k) ?_
  obtain ⟨T2, X2, e2, st2⟩ := getF X1 hx hZ hown (host := "") (Or.inl (hW hw 25 rfl)) Via.refl e1 pf1 (g := (mkF m 8 #[vr a0, vi p1] [(.ref a0)])) rfl rfl (hb hby d12_8)
  refine gb (mkF m 11 #[vr a0, vi p1] [(.ref b)]) st2 ?_
  refine gb (mkF m 12 #[vr a0, vi p1] [(.int p1), (.ref b)]) (fun _ k => XS.iloadN X2.here hx rfl (hb hby d12_11) rfl k) ?_
  obtain ⟨_, _, ⟨T3, L3, k3, n3⟩, -, X3, ⟨Lc3, hQ3, l3, y3, z3⟩, st3⟩ := callS X2 hx (y := mq2) hown (mvT hZ (hW hw 65 rfl)) (mvT hZ (hW hw 66 rfl)) (mvT hZ (hW hw 67 rfl)) (mvT hZ (hW hw 68 rfl)) (by decide) (backOf (W := 0) (rm14 l Z a0' hw [] b p1 kb zn us G1 w_sf h0 n0 O W pf3 h1 h2) hZ (hW hw 68 rfl) (hW hw 67 rfl) (by decide) (by decide)) (g := (mkF m 12 #[vr a0, vi p1] [(.int p1), (.ref b)])) rfl (by rw [hml]; rfl) (argsL := [(.ref b), (.int p1)]) (rest := []) (lenOf pd69 rfl) rfl (Nat.le_of_eq rfl) (hb hby d12_12) (fun _ _ => ⟨rfl, e2, (by decide : 0 + 0 ≤ _), (by decide : 0 + 0 ≤ _)⟩)
  dsimp only [Pt.U, Pt.locs, Pt.cells, Pt.slots] at X3 l3 y3 z3 st3 hQ3
  subst l3 y3 z3
  obtain ⟨rfl, N3q, e3⟩ := hQ3
  have N3 := Fr.app N1 N3q
  refine gb (mkF m 15 #[vr a0, vi p1] [(.int (fn14 p1 us G1 w_sf))]) st3 ?_
  exact Gl.outN X3 hx hk (t := .char) Bd.returns (by simp) (hb hby d12_15) ⟨(congrArg (fun z => some (Value.int z)) (show nar .char (fn14 p1 us G1 w_sf) = fn12A p1 us G1 w_sf by unfold fn12A; try rfl)), N3, e3⟩ (by decide) (by decide)
theorem d12_16 : decode jdk_42_method_56_code 16 = .ok (.aload_n 0, 1) := by decide +kernel
theorem d12_17 : decode jdk_42_method_56_code 17 = .ok (.getfield 9, 3) := by decide +kernel
theorem d12_20 : decode jdk_42_method_56_code 20 = .ok (.iload_n 1, 1) := by decide +kernel
theorem d12_21 : decode jdk_42_method_56_code 21 = .ok (.invokestatic 498, 3) := by decide +kernel
theorem d12_24 : decode jdk_42_method_56_code 24 = .ok (.ireturn, 1) := by decide +kernel
theorem ef12U (m : MethodId) (x0 : Addr) (x1 : Int32) : entryFrame m #[(.ref x0), (.int x1)] 2 = mkF m 0 #[.val (.ref x0), .val (.int x1)] [] := by first | (simp [entryFrame, mkF, argsToLocals, Value.category]; done) | rfl
def fn12U (p1 : Int32) (us : List Int32) (G1 : Int32) (w_sf : Value) : Int32 := (nar .char (fn22 p1 us G1 w_sf))
def Q12U (Z : State) (a0 : Addr) (p1 : Int32) (b : Addr) (kb : ClassId) (zn : Int32) (us : List Int32) (G1 : Int32) (w_sf : Value) (h0 : Heap) (n0 : Nat) (v : Option Value) (h : Heap) (L : List Loc) : Prop := v = some (.int (fn12U p1 us G1 w_sf)) ∧ Fr n0 L ∧ h = h0
theorem rm12U (l : Launch) (Z : State) (a0' : Array Value) (hw : ∀ d ∈ tables_1, d.before a0' Z = true) (ws : List Jvm.Cond) (a0 : Addr) (p1 : Int32) (b : Addr) (kb : ClassId) (zn : Int32) (us : List Int32) (G1 : Int32) (w_sf : Value) (h0 : Heap) (n0 : Nat) (O : Old Z n0 h0) (W : Wd Z G1 w_sf) (pf0 : Exa Z h0 a0 "java/lang/String") (pf1 : Fld Z h0 a0 "java/lang/String" "value" "[B" (.ref b)) (pf2 : Fld Z h0 a0 "java/lang/String" "coder" "B" (.int 1)) (pf3 : Arv Z h0 b kb .byte zn (us.map Value.int) (.int 0)) (h1 : ¬ p1 < (0 : Int32)) (h2 : p1 < (zn >>> ((1 : Int32) &&& 31))) (hb1 : ¬ (p1 <<< ((1 : Int32) &&& 31)) < 0 ∧ (p1 <<< ((1 : Int32) &&& 31)) < zn) (hb2 : ¬ ((p1 <<< ((1 : Int32) &&& 31)) + (1 : Int32)) < 0 ∧ ((p1 <<< ((1 : Int32) &&& 31)) + (1 : Int32)) < zn) :
    MetFree l mq10 (head1 (Jvm.Cond.code mq10 jdk_42_method_56_code 2 (some .char) :: ws) ({ frames := 4, cells := 0, slots := 0, locals := 53 } : Room)) (fun a U => a = #[(.ref a0), (.int p1)] ∧ Z.Warmed39 U.vm ∧ U.heap = h0) (fun _ _ _ _ _ => True) (fun _ U o U' => ∃ v L, o = .returned v ∧ Q12U Z a0 p1 b kb zn us G1 w_sf h0 n0 v U'.heap L ∧ FrameEnd U o U' L ({ frames := 4, cells := 0, slots := 0, locals := 53 } : Room).cells ({ frames := 4, cells := 0, slots := 0, locals := 53 } : Room).slots) := by
  refine MetFree.of_bodySF (plainFor_of_name pn1) hisR ?_
  intro p e s m args below meth c s₁ Bd hml0 hP hK
  obtain ⟨rfl, hZ, hh⟩ := hP
  have hx := Bd.exec
  have hby := Bd.bytes
  have hml : c.maxLocals = 2 := hml0
  have hown : s.vm.findClass "java/lang/String" = some m.cls := findClass_of_methodNamed Bd.named
  have hnm := (name_of_methodNamed Bd.named Bd.method).1
  have hk := Bd.notSynchronized
  have X0 : Stand p l e ({ frames := 4, cells := 0, slots := 0, locals := 53 } : Room) s m #[(.ref a0), (.int p1)] below meth c s₁ [] 0 0 := Stand.of_body Bd
  have hh2 := hh
  have e0 : s₁.heap = h0 := by rw [← hh, Bd.state]; rfl
  have N0 := Fr.nil n0
  show Gl p e below (Pos 0 0 (Q12U Z a0 p1 b kb zn us G1 w_sf h0 n0) s) s₁ _
  refine Gl.cast (ef12U m a0 p1) ?_
  refine gb (mkF m 1 #[vr a0, vi p1] [(.ref a0)]) (fun _ k => XS.aloadN X0.here hx rfl (hb hby d12_0) rfl rfl k) ?_
  obtain ⟨cq1, kq1, q1a, q1b, q1c⟩ := isOf hZ e0 pf0
  obtain ⟨_, _, ⟨T1, L1, k1, n1⟩, -, X1, ⟨Lc1, hQ1, l1, y1, z1⟩, st1⟩ := X0.virtualBack hx (y := mq8) (z := mq8) hown (mvT hZ (hW hw 60 rfl)) (mvT hZ (hW hw 61 rfl)) (notFace_of_selects (args := #[]) (mvT hZ (hW hw 63 rfl))) (mvT hZ (hW hw 63 rfl)) (mvT hZ (hW hw 62 rfl)) (by decide) (backOf (W := 0) (rm131 l Z a0' hw [] a0 G1 w_sf h0 n0 O W pf0 pf2) hZ (hW hw 64 rfl) (hW hw 8 rfl) (by decide) (by decide)) q1a q1c (g := (mkF m 1 #[vr a0, vi p1] [(.ref a0)])) rfl (by rw [hml]; rfl) (Steps.refl _) (argsL := []) (rest := []) (lenOf pd101 rfl) rfl (Nat.le_of_eq rfl) (hb hby d12_1) (fun _ _ => ⟨rfl, e0, (by decide : 0 + 0 ≤ _), (by decide : 0 + 0 ≤ _)⟩)
  dsimp only [Pt.U, Pt.locs, Pt.cells, Pt.slots] at X1 l1 y1 z1 st1 hQ1
  subst l1 y1 z1
  obtain ⟨rfl, N1q, e1⟩ := hQ1
  have N1 := Fr.app N0 N1q
  refine gb (mkF m 4 #[vr a0, vi p1] [(.int 0)]) (fun _ k => st1.trans k) ?_
  refine gb (mkF m 16 #[vr a0, vi p1] []) (fun _ k => XS.ifYes X1.here hx rfl (pc0 := 4) (pc' := 16) rfl (hb hby d12_4) rfl ((if0 _ _).trans (teq (by decide : (0 : Int32) = (0 : Int32))).1) (by decide) (by decide) k) ?_
  refine gb (mkF m 17 #[vr a0, vi p1] [(.ref a0)]) (fun _ k => XS.aloadN X1.here hx rfl (hb hby d12_16) rfl rfl k) ?_
  obtain ⟨T2, X2, e2, st2⟩ := getF X1 hx hZ hown (host := "") (Or.inl (hW hw 25 rfl)) Via.refl e1 pf1 (g := (mkF m 17 #[vr a0, vi p1] [(.ref a0)])) rfl rfl (hb hby d12_17)
  refine gb (mkF m 20 #[vr a0, vi p1] [(.ref b)]) st2 ?_
  refine gb (mkF m 21 #[vr a0, vi p1] [(.int p1), (.ref b)]) (fun _ k => XS.iloadN X2.here hx rfl (hb hby d12_20) rfl k) ?_
  obtain ⟨_, _, ⟨T3, L3, k3, n3⟩, -, X3, ⟨Lc3, hQ3, l3, y3, z3⟩, st3⟩ := callS X2 hx (y := mq6) hown (mvT hZ (hW hw 96 rfl)) (mvT hZ (hW hw 97 rfl)) (mvT hZ (hW hw 47 rfl)) (mvT hZ (hW hw 98 rfl)) (by decide) (backOf (W := 0) (rm22 l Z a0' hw [] b p1 kb zn us G1 w_sf h0 n0 O W pf3 h1 h2 hb1 hb2) hZ (hW hw 98 rfl) (hW hw 47 rfl) (by decide) (by decide)) (g := (mkF m 21 #[vr a0, vi p1] [(.int p1), (.ref b)])) rfl (by rw [hml]; rfl) (argsL := [(.ref b), (.int p1)]) (rest := []) (lenOf pd69 rfl) rfl (Nat.le_of_eq rfl) (hb hby d12_21) (fun _ _ => ⟨rfl, e2, (by decide : 0 + 0 ≤ _), (by decide : 0 + 0 ≤ _)⟩)
  dsimp only [Pt.U, Pt.locs, Pt.cells, Pt.slots] at X3 l3 y3 z3 st3 hQ3
  subst l3 y3 z3
  obtain ⟨rfl, N3q, e3⟩ := hQ3
  have N3 := Fr.app N1 N3q
  refine gb (mkF m 24 #[vr a0, vi p1] [(.int (fn22 p1 us G1 w_sf))]) st3 ?_
  exact Gl.outN X3 hx hk (t := .char) Bd.returns (by simp) (hb hby d12_24) ⟨(congrArg (fun z => some (Value.int z)) (show nar .char (fn22 p1 us G1 w_sf) = fn12U p1 us G1 w_sf by unfold fn12U; try rfl)), N3, e3⟩ (by decide) (by decide)
theorem d10_0 : decode jdk_52_method_21_code 0 = .ok (.iconst 0, 1) := by decide +kernel
theorem d10_1 : decode jdk_52_method_21_code 1 = .ok (.istore 5, 2) := by decide +kernel
theorem d10_3 : decode jdk_52_method_21_code 3 = .ok (.iload 5, 2) := by decide +kernel
theorem d10_5 : decode jdk_52_method_21_code 5 = .ok (.iload 4, 2) := by decide +kernel
theorem d10_7 : decode jdk_52_method_21_code 7 = .ok (.if_icmp .ge 37, 3) := by decide +kernel
theorem d10_10 : decode jdk_52_method_21_code 10 = .ok (.aload_n 0, 1) := by decide +kernel
theorem d10_11 : decode jdk_52_method_21_code 11 = .ok (.iload_n 1, 1) := by decide +kernel
theorem d10_12 : decode jdk_52_method_21_code 12 = .ok (.caload, 1) := by decide +kernel
theorem d10_13 : decode jdk_52_method_21_code 13 = .ok (.istore 6, 2) := by decide +kernel
theorem d10_15 : decode jdk_52_method_21_code 15 = .ok (.iload 6, 2) := by decide +kernel
theorem d10_17 : decode jdk_52_method_21_code 17 = .ok (.sipush 255, 3) := by decide +kernel
theorem d10_20 : decode jdk_52_method_21_code 20 = .ok (.if_icmp .le 6, 3) := by decide +kernel
theorem d10_23 : decode jdk_52_method_21_code 23 = .ok (.iload 5, 2) := by decide +kernel
theorem d10_25 : decode jdk_52_method_21_code 25 = .ok (.ireturn, 1) := by decide +kernel
theorem d10_26 : decode jdk_52_method_21_code 26 = .ok (.aload_n 2, 1) := by decide +kernel
theorem d10_27 : decode jdk_52_method_21_code 27 = .ok (.iload_n 3, 1) := by decide +kernel
theorem d10_28 : decode jdk_52_method_21_code 28 = .ok (.iload 6, 2) := by decide +kernel
theorem d10_30 : decode jdk_52_method_21_code 30 = .ok (.i2b, 1) := by decide +kernel
theorem d10_31 : decode jdk_52_method_21_code 31 = .ok (.bastore, 1) := by decide +kernel
theorem d10_32 : decode jdk_52_method_21_code 32 = .ok (.iinc 1 1, 3) := by decide +kernel
theorem d10_35 : decode jdk_52_method_21_code 35 = .ok (.iinc 3 1, 3) := by decide +kernel
theorem d10_38 : decode jdk_52_method_21_code 38 = .ok (.iinc 5 1, 3) := by decide +kernel
theorem d10_41 : decode jdk_52_method_21_code 41 = .ok (.goto (-38), 3) := by decide +kernel
theorem d10_44 : decode jdk_52_method_21_code 44 = .ok (.iload 4, 2) := by decide +kernel
theorem d10_46 : decode jdk_52_method_21_code 46 = .ok (.ireturn, 1) := by decide +kernel
theorem ef101 (m : MethodId) (x0 : Addr) (x1 : Int32) (x2 : Addr) (x3 : Int32) (x4 : Int32) : entryFrame m #[(.ref x0), (.int x1), (.ref x2), (.int x3), (.int x4)] 7 = mkF m 0 #[.val (.ref x0), .val (.int x1), .val (.ref x2), .val (.int x3), .val (.int x4), .unset, .unset] [] := by first | (simp [entryFrame, mkF, argsToLocals, Value.category]; done) | rfl
def Q101 (Z : State) (a0 : Addr) (a2 : Addr) (ka : ClassId) (kb : ClassId) (x0 : Int32) (G1 : Int32) (w_sf : Value) (h0 : Heap) (n0 : Nat) (v : Option Value) (h : Heap) (L : List Loc) : Prop := ∃ (r : Int32), v = some (.int r) ∧ Fr n0 L ∧ Keep h0 h [a2] ∧ ((r = (1 : Int32) ∧ ¬ ((255 : Int32) < x0) ∧ Arv Z h a2 kb .byte (1 : Int32) [(.int (bL x0))] (.int 0)) ∨ (r = (0 : Int32) ∧ (255 : Int32) < x0))
theorem rm101 (l : Launch) (Z : State) (a0' : Array Value) (hw : ∀ d ∈ tables_1, d.before a0' Z = true) (ws : List Jvm.Cond) (a0 : Addr) (a2 : Addr) (ka : ClassId) (kb : ClassId) (x0 : Int32) (G1 : Int32) (w_sf : Value) (h0 : Heap) (n0 : Nat) (O : Old Z n0 h0) (W : Wd Z G1 w_sf) (pf0 : Arv Z h0 a0 ka .char (1 : Int32) [(.int x0)] (.int 0)) (pf1 : Arv Z h0 a2 kb .byte (1 : Int32) [(.int 0)] (.int 0)) (gp_a2 : n0 ≤ a2) (np_a0_a2 : a0 ≠ a2) :
    MetFree l mq11 (head1 (Jvm.Cond.code mq11 jdk_52_method_21_code 7 (some .int) :: ws) ({ frames := 0, cells := 0, slots := 0, locals := 0 } : Room)) (fun a U => a = #[(.ref a0), (.int 0), (.ref a2), (.int 0), (.int 1)] ∧ Z.Warmed39 U.vm ∧ U.heap = h0) (fun _ _ _ _ _ => True) (fun _ U o U' => ∃ v L, o = .returned v ∧ Q101 Z a0 a2 ka kb x0 G1 w_sf h0 n0 v U'.heap L ∧ FrameEnd U o U' L ({ frames := 0, cells := 0, slots := 0, locals := 0 } : Room).cells ({ frames := 0, cells := 0, slots := 0, locals := 0 } : Room).slots) := by
  refine MetFree.of_bodySF (plainFor_of_name pn3) hisR ?_
  intro p e s m args below meth c s₁ Bd hml0 hP hK
  obtain ⟨rfl, hZ, hh⟩ := hP
  have hx := Bd.exec
  have hby := Bd.bytes
  have hml : c.maxLocals = 7 := hml0
  have hown : s.vm.findClass "java/lang/StringUTF16" = some m.cls := findClass_of_methodNamed Bd.named
  have hnm := (name_of_methodNamed Bd.named Bd.method).1
  have hk := Bd.notSynchronized
  have X0 : Stand p l e ({ frames := 0, cells := 0, slots := 0, locals := 0 } : Room) s m #[(.ref a0), (.int 0), (.ref a2), (.int 0), (.int 1)] below meth c s₁ [] 0 0 := Stand.of_body Bd
  have hh2 := hh
  have e0 : s₁.heap = h0 := by rw [← hh, Bd.state]; rfl
  have N0 := Fr.nil n0
  show Gl p e below (Pos 0 0 (Q101 Z a0 a2 ka kb x0 G1 w_sf h0 n0) s) s₁ _
  refine Gl.cast (ef101 m a0 (0 : Int32) a2 (0 : Int32) (1 : Int32)) ?_
  refine gb (mkF m 1 #[vr a0, vi 0, vr a2, vi 0, vi 1, .unset, .unset] [(.int 0)]) (fun _ k => XS.iconst X0.here hx rfl (hb hby d10_0) k) ?_
  refine gb (mkF m 3 #[vr a0, vi 0, vr a2, vi 0, vi 1, vi 0, .unset] []) (fun _ k => XS.istore X0.here hx rfl (hb hby d10_1) rfl (l' := #[vr a0, vi 0, vr a2, vi 0, vi 1, vi 0, .unset]) rfl k) ?_
  refine gb (mkF m 5 #[vr a0, vi 0, vr a2, vi 0, vi 1, vi 0, .unset] [(.int 0)]) (fun _ k => XS.iload X0.here hx rfl (hb hby d10_3) rfl k) ?_
  refine gb (mkF m 7 #[vr a0, vi 0, vr a2, vi 0, vi 1, vi 0, .unset] [(.int 1), (.int 0)]) (fun _ k => XS.iload X0.here hx rfl (hb hby d10_5) rfl k) ?_
  refine gb (mkF m 10 #[vr a0, vi 0, vr a2, vi 0, vi 1, vi 0, .unset] []) (fun _ k => XS.icmpNo X0.here hx rfl (hb hby d10_7) rfl (tlt (by decide : (0 : Int32) < (1 : Int32))).2.1 k) ?_
  refine gb (mkF m 11 #[vr a0, vi 0, vr a2, vi 0, vi 1, vi 0, .unset] [(.ref a0)]) (fun _ k => XS.aloadN X0.here hx rfl (hb hby d10_10) rfl rfl k) ?_
  refine gb (mkF m 12 #[vr a0, vi 0, vr a2, vi 0, vi 1, vi 0, .unset] [(.int 0), (.ref a0)]) (fun _ k => XS.iloadN X0.here hx rfl (hb hby d10_11) rfl k) ?_
  obtain ⟨cl1, Ar1, qa1, Sa1, Na1, Ha1, Ga1⟩ := id pf0
  have hin2 : ¬ ((0 : Int32) < 0 ∨ cl1.slots.size ≤ ((0 : Int32)).toNatClampNeg) := inb_of Sa1 ⟨by decide, by decide⟩
  refine gb (mkF m 13 #[vr a0, vi 0, vr a2, vi 0, vi 1, vi 0, .unset] [(.int x0)]) (X0.caload hx (j := (0 : Int32)) (v := (.int x0)) (by rw [e0]; exact Ar1.1) (State.isArrayOf_alike hZ.alike Ar1.2.1) Ar1.2.2 hin2 (Has.at Ha1 hin2 rfl) (g := (mkF m 12 #[vr a0, vi 0, vr a2, vi 0, vi 1, vi 0, .unset] [(.int 0), (.ref a0)])) rfl rfl (hb hby d10_12)) ?_
  refine gb (mkF m 15 #[vr a0, vi 0, vr a2, vi 0, vi 1, vi 0, vi x0] []) (fun _ k => XS.istore X0.here hx rfl (hb hby d10_13) rfl (l' := #[vr a0, vi 0, vr a2, vi 0, vi 1, vi 0, vi x0]) rfl k) ?_
  refine gb (mkF m 17 #[vr a0, vi 0, vr a2, vi 0, vi 1, vi 0, vi x0] [(.int x0)]) (fun _ k => XS.iload X0.here hx rfl (hb hby d10_15) rfl k) ?_
  refine gb (mkF m 20 #[vr a0, vi 0, vr a2, vi 0, vi 1, vi 0, vi x0] [(.int 255), (.int x0)]) (fun _ k => XS.sipush X0.here hx rfl (hb hby d10_17) k) ?_
  by_cases hf3 : (255 : Int32) < x0
  · refine gb (mkF m 23 #[vr a0, vi 0, vr a2, vi 0, vi 1, vi 0, vi x0] []) (fun _ k => XS.icmpNo X0.here hx rfl (hb hby d10_20) rfl (tlt hf3).2.2.2 k) ?_
    refine gb (mkF m 25 #[vr a0, vi 0, vr a2, vi 0, vi 1, vi 0, vi x0] [(.int 0)]) (fun _ k => XS.iload X0.here hx rfl (hb hby d10_23) rfl k) ?_
    exact Gl.outI X0 hx hk Bd.returns (hb hby d10_25) (Eq.mpr (congrArg (fun hh => Q101 Z a0 a2 ka kb x0 G1 w_sf h0 n0 _ hh _) e0) (show Q101 Z a0 a2 ka kb x0 G1 w_sf h0 n0 _ h0 _ from ⟨(0 : Int32), rfl, N0, (Keep.refl h0 [a2]), (Or.inr (⟨rfl, hf3⟩))⟩)) (by decide) (by decide)
  · refine gb (mkF m 26 #[vr a0, vi 0, vr a2, vi 0, vi 1, vi 0, vi x0] []) (fun _ k => XS.icmpYes X0.here hx rfl (pc0 := 20) (pc' := 26) rfl (hb hby d10_20) rfl (flt hf3).2.2.2 (by decide) (by decide) k) ?_
    refine gb (mkF m 27 #[vr a0, vi 0, vr a2, vi 0, vi 1, vi 0, vi x0] [(.ref a2)]) (fun _ k => XS.aloadN X0.here hx rfl (hb hby d10_26) rfl rfl k) ?_
    refine gb (mkF m 28 #[vr a0, vi 0, vr a2, vi 0, vi 1, vi 0, vi x0] [(.int 0), (.ref a2)]) (fun _ k => XS.iloadN X0.here hx rfl (hb hby d10_27) rfl k) ?_
    refine gb (mkF m 30 #[vr a0, vi 0, vr a2, vi 0, vi 1, vi 0, vi x0] [(.int x0), (.int 0), (.ref a2)]) (fun _ k => XS.iload X0.here hx rfl (hb hby d10_28) rfl k) ?_
    refine gb (mkF m 31 #[vr a0, vi 0, vr a2, vi 0, vi 1, vi 0, vi x0] [(.int (x0.toInt8.toInt32)), (.int 0), (.ref a2)]) (fun _ k => XS.i2b X0.here hx rfl (hb hby d10_30) rfl k) ?_
    obtain ⟨cl4, Ar4, qa4, Sa4, Na4, Ha4, Ga4⟩ := id pf1
    have hin5 : ¬ ((0 : Int32) < 0 ∨ cl4.slots.size ≤ ((0 : Int32)).toNatClampNeg) := inb_of Sa4 ⟨by decide, by decide⟩
    obtain ⟨T5, h5, X5, e5, W5, st5⟩ := stB X0 hx hZ e0 Ar4 (j := (0 : Int32)) hin5 (g := (mkF m 31 #[vr a0, vi 0, vr a2, vi 0, vi 1, vi 0, vi x0] [(.int (x0.toInt8.toInt32)), (.int 0), (.ref a2)])) rfl rfl (hb hby d10_31)
    have V5 : Arv Z h5 a2 kb .byte (1 : Int32) [(.int ((x0.toInt8.toInt32).toInt8.toInt32))] (.int 0) := Arv.set Ar4 qa4 Sa4 Na4 Ha4 Ga4 (fits_nar_byte _) W5 0 rfl (Nat.le_of_ble_eq_true rfl)
    have N5 := Fr.snoc X5 N0 gp_a2
    refine gb (mkF m 32 #[vr a0, vi 0, vr a2, vi 0, vi 1, vi 0, vi x0] []) st5 ?_
    refine gb (mkF m 35 #[vr a0, vi 1, vr a2, vi 0, vi 1, vi 0, vi x0] []) (fun _ k => XS.iinc X5.here hx rfl (hb hby d10_32) rfl (l' := #[vr a0, vi 1, vr a2, vi 0, vi 1, vi 0, vi x0]) rfl k) ?_
    refine gb (mkF m 38 #[vr a0, vi 1, vr a2, vi 1, vi 1, vi 0, vi x0] []) (fun _ k => XS.iinc X5.here hx rfl (hb hby d10_35) rfl (l' := #[vr a0, vi 1, vr a2, vi 1, vi 1, vi 0, vi x0]) rfl k) ?_
    refine gb (mkF m 41 #[vr a0, vi 1, vr a2, vi 1, vi 1, vi 1, vi x0] []) (fun _ k => XS.iinc X5.here hx rfl (hb hby d10_38) rfl (l' := #[vr a0, vi 1, vr a2, vi 1, vi 1, vi 1, vi x0]) rfl k) ?_
    refine gb (mkF m 3 #[vr a0, vi 1, vr a2, vi 1, vi 1, vi 1, vi x0] []) (fun _ k => XS.goto X5.here hx rfl (pc0 := 41) (pc' := 3) rfl (hb hby d10_41) (by decide) (by decide) k) ?_
    refine gb (mkF m 5 #[vr a0, vi 1, vr a2, vi 1, vi 1, vi 1, vi x0] [(.int 1)]) (fun _ k => XS.iload X5.here hx rfl (hb hby d10_3) rfl k) ?_
    refine gb (mkF m 7 #[vr a0, vi 1, vr a2, vi 1, vi 1, vi 1, vi x0] [(.int 1), (.int 1)]) (fun _ k => XS.iload X5.here hx rfl (hb hby d10_5) rfl k) ?_
    refine gb (mkF m 44 #[vr a0, vi 1, vr a2, vi 1, vi 1, vi 1, vi x0] []) (fun _ k => XS.icmpYes X5.here hx rfl (pc0 := 7) (pc' := 44) rfl (hb hby d10_7) rfl (flt (by decide : ¬ ((1 : Int32) < (1 : Int32)))).2.1 (by decide) (by decide) k) ?_
    refine gb (mkF m 46 #[vr a0, vi 1, vr a2, vi 1, vi 1, vi 1, vi x0] [(.int 1)]) (fun _ k => XS.iload X5.here hx rfl (hb hby d10_44) rfl k) ?_
    have K6 := ((Keep.refl h0 [a2]).wr W5 (Or.inl (List.mem_of_getElem? (i := 0) rfl)))
    exact Gl.outI X5 hx hk Bd.returns (hb hby d10_46) (Eq.mpr (congrArg (fun hh => Q101 Z a0 a2 ka kb x0 G1 w_sf h0 n0 _ hh _) e5) (show Q101 Z a0 a2 ka kb x0 G1 w_sf h0 n0 _ h5 _ from ⟨(1 : Int32), rfl, N5, K6, (Or.inl ⟨rfl, hf3, V5⟩)⟩)) (by decide) (by decide)
theorem ef102 (m : MethodId) (x0 : Addr) (x1 : Int32) (x2 : Addr) (x3 : Int32) (x4 : Int32) : entryFrame m #[(.ref x0), (.int x1), (.ref x2), (.int x3), (.int x4)] 7 = mkF m 0 #[.val (.ref x0), .val (.int x1), .val (.ref x2), .val (.int x3), .val (.int x4), .unset, .unset] [] := by first | (simp [entryFrame, mkF, argsToLocals, Value.category]; done) | rfl
def Q102 (Z : State) (a0 : Addr) (a2 : Addr) (ka : ClassId) (kb : ClassId) (x0 : Int32) (x1 : Int32) (G1 : Int32) (w_sf : Value) (h0 : Heap) (n0 : Nat) (v : Option Value) (h : Heap) (L : List Loc) : Prop := ∃ (r : Int32), v = some (.int r) ∧ Fr n0 L ∧ Keep h0 h [a2] ∧ ((r = (2 : Int32) ∧ ¬ ((255 : Int32) < x0 ∨ (255 : Int32) < x1) ∧ Arv Z h a2 kb .byte (2 : Int32) [(.int (bL x0)), (.int (bL x1))] (.int 0)) ∨ (r = (0 : Int32) ∧ (255 : Int32) < x0) ∨ (r = (1 : Int32) ∧ (255 : Int32) < x1))
theorem rm102 (l : Launch) (Z : State) (a0' : Array Value) (hw : ∀ d ∈ tables_1, d.before a0' Z = true) (ws : List Jvm.Cond) (a0 : Addr) (a2 : Addr) (ka : ClassId) (kb : ClassId) (x0 : Int32) (x1 : Int32) (G1 : Int32) (w_sf : Value) (h0 : Heap) (n0 : Nat) (O : Old Z n0 h0) (W : Wd Z G1 w_sf) (pf0 : Arv Z h0 a0 ka .char (2 : Int32) [(.int x0), (.int x1)] (.int 0)) (pf1 : Arv Z h0 a2 kb .byte (2 : Int32) [(.int 0), (.int 0)] (.int 0)) (gp_a2 : n0 ≤ a2) (np_a0_a2 : a0 ≠ a2) :
    MetFree l mq11 (head1 (Jvm.Cond.code mq11 jdk_52_method_21_code 7 (some .int) :: ws) ({ frames := 0, cells := 0, slots := 0, locals := 0 } : Room)) (fun a U => a = #[(.ref a0), (.int 0), (.ref a2), (.int 0), (.int 2)] ∧ Z.Warmed39 U.vm ∧ U.heap = h0) (fun _ _ _ _ _ => True) (fun _ U o U' => ∃ v L, o = .returned v ∧ Q102 Z a0 a2 ka kb x0 x1 G1 w_sf h0 n0 v U'.heap L ∧ FrameEnd U o U' L ({ frames := 0, cells := 0, slots := 0, locals := 0 } : Room).cells ({ frames := 0, cells := 0, slots := 0, locals := 0 } : Room).slots) := by
  refine MetFree.of_bodySF (plainFor_of_name pn3) hisR ?_
  intro p e s m args below meth c s₁ Bd hml0 hP hK
  obtain ⟨rfl, hZ, hh⟩ := hP
  have hx := Bd.exec
  have hby := Bd.bytes
  have hml : c.maxLocals = 7 := hml0
  have hown : s.vm.findClass "java/lang/StringUTF16" = some m.cls := findClass_of_methodNamed Bd.named
  have hnm := (name_of_methodNamed Bd.named Bd.method).1
  have hk := Bd.notSynchronized
  have X0 : Stand p l e ({ frames := 0, cells := 0, slots := 0, locals := 0 } : Room) s m #[(.ref a0), (.int 0), (.ref a2), (.int 0), (.int 2)] below meth c s₁ [] 0 0 := Stand.of_body Bd
  have hh2 := hh
  have e0 : s₁.heap = h0 := by rw [← hh, Bd.state]; rfl
  have N0 := Fr.nil n0
  show Gl p e below (Pos 0 0 (Q102 Z a0 a2 ka kb x0 x1 G1 w_sf h0 n0) s) s₁ _
  refine Gl.cast (ef102 m a0 (0 : Int32) a2 (0 : Int32) (2 : Int32)) ?_
  refine gb (mkF m 1 #[vr a0, vi 0, vr a2, vi 0, vi 2, .unset, .unset] [(.int 0)]) (fun _ k => XS.iconst X0.here hx rfl (hb hby d10_0) k) ?_
  refine gb (mkF m 3 #[vr a0, vi 0, vr a2, vi 0, vi 2, vi 0, .unset] []) (fun _ k => XS.istore X0.here hx rfl (hb hby d10_1) rfl (l' := #[vr a0, vi 0, vr a2, vi 0, vi 2, vi 0, .unset]) rfl k) ?_
  refine gb (mkF m 5 #[vr a0, vi 0, vr a2, vi 0, vi 2, vi 0, .unset] [(.int 0)]) (fun _ k => XS.iload X0.here hx rfl (hb hby d10_3) rfl k) ?_
  refine gb (mkF m 7 #[vr a0, vi 0, vr a2, vi 0, vi 2, vi 0, .unset] [(.int 2), (.int 0)]) (fun _ k => XS.iload X0.here hx rfl (hb hby d10_5) rfl k) ?_
  refine gb (mkF m 10 #[vr a0, vi 0, vr a2, vi 0, vi 2, vi 0, .unset] []) (fun _ k => XS.icmpNo X0.here hx rfl (hb hby d10_7) rfl (tlt (by decide : (0 : Int32) < (2 : Int32))).2.1 k) ?_
  refine gb (mkF m 11 #[vr a0, vi 0, vr a2, vi 0, vi 2, vi 0, .unset] [(.ref a0)]) (fun _ k => XS.aloadN X0.here hx rfl (hb hby d10_10) rfl rfl k) ?_
  refine gb (mkF m 12 #[vr a0, vi 0, vr a2, vi 0, vi 2, vi 0, .unset] [(.int 0), (.ref a0)]) (fun _ k => XS.iloadN X0.here hx rfl (hb hby d10_11) rfl k) ?_
  obtain ⟨cl1, Ar1, qa1, Sa1, Na1, Ha1, Ga1⟩ := id pf0
  have hin2 : ¬ ((0 : Int32) < 0 ∨ cl1.slots.size ≤ ((0 : Int32)).toNatClampNeg) := inb_of Sa1 ⟨by decide, by decide⟩
  refine gb (mkF m 13 #[vr a0, vi 0, vr a2, vi 0, vi 2, vi 0, .unset] [(.int x0)]) (X0.caload hx (j := (0 : Int32)) (v := (.int x0)) (by rw [e0]; exact Ar1.1) (State.isArrayOf_alike hZ.alike Ar1.2.1) Ar1.2.2 hin2 (Has.at Ha1 hin2 rfl) (g := (mkF m 12 #[vr a0, vi 0, vr a2, vi 0, vi 2, vi 0, .unset] [(.int 0), (.ref a0)])) rfl rfl (hb hby d10_12)) ?_
  refine gb (mkF m 15 #[vr a0, vi 0, vr a2, vi 0, vi 2, vi 0, vi x0] []) (fun _ k => XS.istore X0.here hx rfl (hb hby d10_13) rfl (l' := #[vr a0, vi 0, vr a2, vi 0, vi 2, vi 0, vi x0]) rfl k) ?_
  refine gb (mkF m 17 #[vr a0, vi 0, vr a2, vi 0, vi 2, vi 0, vi x0] [(.int x0)]) (fun _ k => XS.iload X0.here hx rfl (hb hby d10_15) rfl k) ?_
  refine gb (mkF m 20 #[vr a0, vi 0, vr a2, vi 0, vi 2, vi 0, vi x0] [(.int 255), (.int x0)]) (fun _ k => XS.sipush X0.here hx rfl (hb hby d10_17) k) ?_
  by_cases hf3 : (255 : Int32) < x0
  · refine gb (mkF m 23 #[vr a0, vi 0, vr a2, vi 0, vi 2, vi 0, vi x0] []) (fun _ k => XS.icmpNo X0.here hx rfl (hb hby d10_20) rfl (tlt hf3).2.2.2 k) ?_
    refine gb (mkF m 25 #[vr a0, vi 0, vr a2, vi 0, vi 2, vi 0, vi x0] [(.int 0)]) (fun _ k => XS.iload X0.here hx rfl (hb hby d10_23) rfl k) ?_
    exact Gl.outI X0 hx hk Bd.returns (hb hby d10_25) (Eq.mpr (congrArg (fun hh => Q102 Z a0 a2 ka kb x0 x1 G1 w_sf h0 n0 _ hh _) e0) (show Q102 Z a0 a2 ka kb x0 x1 G1 w_sf h0 n0 _ h0 _ from ⟨(0 : Int32), rfl, N0, (Keep.refl h0 [a2]), (Or.inr (Or.inl ⟨rfl, hf3⟩))⟩)) (by decide) (by decide)
  · refine gb (mkF m 26 #[vr a0, vi 0, vr a2, vi 0, vi 2, vi 0, vi x0] []) (fun _ k => XS.icmpYes X0.here hx rfl (pc0 := 20) (pc' := 26) rfl (hb hby d10_20) rfl (flt hf3).2.2.2 (by decide) (by decide) k) ?_
    refine gb (mkF m 27 #[vr a0, vi 0, vr a2, vi 0, vi 2, vi 0, vi x0] [(.ref a2)]) (fun _ k => XS.aloadN X0.here hx rfl (hb hby d10_26) rfl rfl k) ?_
    refine gb (mkF m 28 #[vr a0, vi 0, vr a2, vi 0, vi 2, vi 0, vi x0] [(.int 0), (.ref a2)]) (fun _ k => XS.iloadN X0.here hx rfl (hb hby d10_27) rfl k) ?_
    refine gb (mkF m 30 #[vr a0, vi 0, vr a2, vi 0, vi 2, vi 0, vi x0] [(.int x0), (.int 0), (.ref a2)]) (fun _ k => XS.iload X0.here hx rfl (hb hby d10_28) rfl k) ?_
    refine gb (mkF m 31 #[vr a0, vi 0, vr a2, vi 0, vi 2, vi 0, vi x0] [(.int (x0.toInt8.toInt32)), (.int 0), (.ref a2)]) (fun _ k => XS.i2b X0.here hx rfl (hb hby d10_30) rfl k) ?_
    obtain ⟨cl4, Ar4, qa4, Sa4, Na4, Ha4, Ga4⟩ := id pf1
    have hin5 : ¬ ((0 : Int32) < 0 ∨ cl4.slots.size ≤ ((0 : Int32)).toNatClampNeg) := inb_of Sa4 ⟨by decide, by decide⟩
    obtain ⟨T5, h5, X5, e5, W5, st5⟩ := stB X0 hx hZ e0 Ar4 (j := (0 : Int32)) hin5 (g := (mkF m 31 #[vr a0, vi 0, vr a2, vi 0, vi 2, vi 0, vi x0] [(.int (x0.toInt8.toInt32)), (.int 0), (.ref a2)])) rfl rfl (hb hby d10_31)
    have V5 : Arv Z h5 a2 kb .byte (2 : Int32) [(.int ((x0.toInt8.toInt32).toInt8.toInt32)), (.int 0)] (.int 0) := Arv.set Ar4 qa4 Sa4 Na4 Ha4 Ga4 (fits_nar_byte _) W5 0 rfl (Nat.le_of_ble_eq_true rfl)
    have N5 := Fr.snoc X5 N0 gp_a2
    refine gb (mkF m 32 #[vr a0, vi 0, vr a2, vi 0, vi 2, vi 0, vi x0] []) st5 ?_
    refine gb (mkF m 35 #[vr a0, vi 1, vr a2, vi 0, vi 2, vi 0, vi x0] []) (fun _ k => XS.iinc X5.here hx rfl (hb hby d10_32) rfl (l' := #[vr a0, vi 1, vr a2, vi 0, vi 2, vi 0, vi x0]) rfl k) ?_
    refine gb (mkF m 38 #[vr a0, vi 1, vr a2, vi 1, vi 2, vi 0, vi x0] []) (fun _ k => XS.iinc X5.here hx rfl (hb hby d10_35) rfl (l' := #[vr a0, vi 1, vr a2, vi 1, vi 2, vi 0, vi x0]) rfl k) ?_
    refine gb (mkF m 41 #[vr a0, vi 1, vr a2, vi 1, vi 2, vi 1, vi x0] []) (fun _ k => XS.iinc X5.here hx rfl (hb hby d10_38) rfl (l' := #[vr a0, vi 1, vr a2, vi 1, vi 2, vi 1, vi x0]) rfl k) ?_
    refine gb (mkF m 3 #[vr a0, vi 1, vr a2, vi 1, vi 2, vi 1, vi x0] []) (fun _ k => XS.goto X5.here hx rfl (pc0 := 41) (pc' := 3) rfl (hb hby d10_41) (by decide) (by decide) k) ?_
    refine gb (mkF m 5 #[vr a0, vi 1, vr a2, vi 1, vi 2, vi 1, vi x0] [(.int 1)]) (fun _ k => XS.iload X5.here hx rfl (hb hby d10_3) rfl k) ?_
    refine gb (mkF m 7 #[vr a0, vi 1, vr a2, vi 1, vi 2, vi 1, vi x0] [(.int 2), (.int 1)]) (fun _ k => XS.iload X5.here hx rfl (hb hby d10_5) rfl k) ?_
    refine gb (mkF m 10 #[vr a0, vi 1, vr a2, vi 1, vi 2, vi 1, vi x0] []) (fun _ k => XS.icmpNo X5.here hx rfl (hb hby d10_7) rfl (tlt (by decide : (1 : Int32) < (2 : Int32))).2.1 k) ?_
    refine gb (mkF m 11 #[vr a0, vi 1, vr a2, vi 1, vi 2, vi 1, vi x0] [(.ref a0)]) (fun _ k => XS.aloadN X5.here hx rfl (hb hby d10_10) rfl rfl k) ?_
    refine gb (mkF m 12 #[vr a0, vi 1, vr a2, vi 1, vi 2, vi 1, vi x0] [(.int 1), (.ref a0)]) (fun _ k => XS.iloadN X5.here hx rfl (hb hby d10_11) rfl k) ?_
    have f6 := (Arv.other pf0 W5 np_a0_a2)
    obtain ⟨cl7, Ar7, qa7, Sa7, Na7, Ha7, Ga7⟩ := id f6
    have hin8 : ¬ ((1 : Int32) < 0 ∨ cl7.slots.size ≤ ((1 : Int32)).toNatClampNeg) := inb_of Sa7 ⟨by decide, by decide⟩
    refine gb (mkF m 13 #[vr a0, vi 1, vr a2, vi 1, vi 2, vi 1, vi x0] [(.int x1)]) (X5.caload hx (j := (1 : Int32)) (v := (.int x1)) (by rw [e5]; exact Ar7.1) (State.isArrayOf_alike hZ.alike Ar7.2.1) Ar7.2.2 hin8 (Has.at Ha7 hin8 (congrArg (fun k => List.getD ([(.int x0), (.int x1)] : List Value) k (.int 0)) (by decide : ((1 : Int32)).toNatClampNeg = 1))) (g := (mkF m 12 #[vr a0, vi 1, vr a2, vi 1, vi 2, vi 1, vi x0] [(.int 1), (.ref a0)])) rfl rfl (hb hby d10_12)) ?_
    refine gb (mkF m 15 #[vr a0, vi 1, vr a2, vi 1, vi 2, vi 1, vi x1] []) (fun _ k => XS.istore X5.here hx rfl (hb hby d10_13) rfl (l' := #[vr a0, vi 1, vr a2, vi 1, vi 2, vi 1, vi x1]) rfl k) ?_
    refine gb (mkF m 17 #[vr a0, vi 1, vr a2, vi 1, vi 2, vi 1, vi x1] [(.int x1)]) (fun _ k => XS.iload X5.here hx rfl (hb hby d10_15) rfl k) ?_
    refine gb (mkF m 20 #[vr a0, vi 1, vr a2, vi 1, vi 2, vi 1, vi x1] [(.int 255), (.int x1)]) (fun _ k => XS.sipush X5.here hx rfl (hb hby d10_17) k) ?_
    by_cases hf9 : (255 : Int32) < x1
    · refine gb (mkF m 23 #[vr a0, vi 1, vr a2, vi 1, vi 2, vi 1, vi x1] []) (fun _ k => XS.icmpNo X5.here hx rfl (hb hby d10_20) rfl (tlt hf9).2.2.2 k) ?_
      refine gb (mkF m 25 #[vr a0, vi 1, vr a2, vi 1, vi 2, vi 1, vi x1] [(.int 1)]) (fun _ k => XS.iload X5.here hx rfl (hb hby d10_23) rfl k) ?_
      have K10 := ((Keep.refl h0 [a2]).wr W5 (Or.inl (List.mem_of_getElem? (i := 0) rfl)))
      exact Gl.outI X5 hx hk Bd.returns (hb hby d10_25) (Eq.mpr (congrArg (fun hh => Q102 Z a0 a2 ka kb x0 x1 G1 w_sf h0 n0 _ hh _) e5) (show Q102 Z a0 a2 ka kb x0 x1 G1 w_sf h0 n0 _ h5 _ from ⟨(1 : Int32), rfl, N5, K10, (Or.inr (Or.inr (⟨rfl, hf9⟩)))⟩)) (by decide) (by decide)
    · refine gb (mkF m 26 #[vr a0, vi 1, vr a2, vi 1, vi 2, vi 1, vi x1] []) (fun _ k => XS.icmpYes X5.here hx rfl (pc0 := 20) (pc' := 26) rfl (hb hby d10_20) rfl (flt hf9).2.2.2 (by decide) (by decide) k) ?_
      refine gb (mkF m 27 #[vr a0, vi 1, vr a2, vi 1, vi 2, vi 1, vi x1] [(.ref a2)]) (fun _ k => XS.aloadN X5.here hx rfl (hb hby d10_26) rfl rfl k) ?_
      refine gb (mkF m 28 #[vr a0, vi 1, vr a2, vi 1, vi 2, vi 1, vi x1] [(.int 1), (.ref a2)]) (fun _ k => XS.iloadN X5.here hx rfl (hb hby d10_27) rfl k) ?_
      refine gb (mkF m 30 #[vr a0, vi 1, vr a2, vi 1, vi 2, vi 1, vi x1] [(.int x1), (.int 1), (.ref a2)]) (fun _ k => XS.iload X5.here hx rfl (hb hby d10_28) rfl k) ?_
      refine gb (mkF m 31 #[vr a0, vi 1, vr a2, vi 1, vi 2, vi 1, vi x1] [(.int (x1.toInt8.toInt32)), (.int 1), (.ref a2)]) (fun _ k => XS.i2b X5.here hx rfl (hb hby d10_30) rfl k) ?_
      obtain ⟨cl11, Ar11, qa11, Sa11, Na11, Ha11, Ga11⟩ := id V5
      have hin12 : ¬ ((1 : Int32) < 0 ∨ cl11.slots.size ≤ ((1 : Int32)).toNatClampNeg) := inb_of Sa11 ⟨by decide, by decide⟩
      obtain ⟨T12, h12, X12, e12, W12, st12⟩ := stB X5 hx hZ e5 Ar11 (j := (1 : Int32)) hin12 (g := (mkF m 31 #[vr a0, vi 1, vr a2, vi 1, vi 2, vi 1, vi x1] [(.int (x1.toInt8.toInt32)), (.int 1), (.ref a2)])) rfl rfl (hb hby d10_31)
      have V12 : Arv Z h12 a2 kb .byte (2 : Int32) [(.int ((x0.toInt8.toInt32).toInt8.toInt32)), (.int ((x1.toInt8.toInt32).toInt8.toInt32))] (.int 0) := Arv.set Ar11 qa11 Sa11 Na11 Ha11 Ga11 (fits_nar_byte _) W12 1 (by decide) (Nat.le_of_ble_eq_true rfl)
      have N12 := Fr.snoc X12 N5 gp_a2
      refine gb (mkF m 32 #[vr a0, vi 1, vr a2, vi 1, vi 2, vi 1, vi x1] []) st12 ?_
      refine gb (mkF m 35 #[vr a0, vi 2, vr a2, vi 1, vi 2, vi 1, vi x1] []) (fun _ k => XS.iinc X12.here hx rfl (hb hby d10_32) rfl (l' := #[vr a0, vi 2, vr a2, vi 1, vi 2, vi 1, vi x1]) rfl k) ?_
      refine gb (mkF m 38 #[vr a0, vi 2, vr a2, vi 2, vi 2, vi 1, vi x1] []) (fun _ k => XS.iinc X12.here hx rfl (hb hby d10_35) rfl (l' := #[vr a0, vi 2, vr a2, vi 2, vi 2, vi 1, vi x1]) rfl k) ?_
      refine gb (mkF m 41 #[vr a0, vi 2, vr a2, vi 2, vi 2, vi 2, vi x1] []) (fun _ k => XS.iinc X12.here hx rfl (hb hby d10_38) rfl (l' := #[vr a0, vi 2, vr a2, vi 2, vi 2, vi 2, vi x1]) rfl k) ?_
      refine gb (mkF m 3 #[vr a0, vi 2, vr a2, vi 2, vi 2, vi 2, vi x1] []) (fun _ k => XS.goto X12.here hx rfl (pc0 := 41) (pc' := 3) rfl (hb hby d10_41) (by decide) (by decide) k) ?_
      refine gb (mkF m 5 #[vr a0, vi 2, vr a2, vi 2, vi 2, vi 2, vi x1] [(.int 2)]) (fun _ k => XS.iload X12.here hx rfl (hb hby d10_3) rfl k) ?_
      refine gb (mkF m 7 #[vr a0, vi 2, vr a2, vi 2, vi 2, vi 2, vi x1] [(.int 2), (.int 2)]) (fun _ k => XS.iload X12.here hx rfl (hb hby d10_5) rfl k) ?_
      refine gb (mkF m 44 #[vr a0, vi 2, vr a2, vi 2, vi 2, vi 2, vi x1] []) (fun _ k => XS.icmpYes X12.here hx rfl (pc0 := 7) (pc' := 44) rfl (hb hby d10_7) rfl (flt (by decide : ¬ ((2 : Int32) < (2 : Int32)))).2.1 (by decide) (by decide) k) ?_
      refine gb (mkF m 46 #[vr a0, vi 2, vr a2, vi 2, vi 2, vi 2, vi x1] [(.int 2)]) (fun _ k => XS.iload X12.here hx rfl (hb hby d10_44) rfl k) ?_
      have K13 := (((Keep.refl h0 [a2]).wr W5 (Or.inl (List.mem_of_getElem? (i := 0) rfl))).wr W12 (Or.inl (List.mem_of_getElem? (i := 0) rfl)))
      exact Gl.outI X12 hx hk Bd.returns (hb hby d10_46) (Eq.mpr (congrArg (fun hh => Q102 Z a0 a2 ka kb x0 x1 G1 w_sf h0 n0 _ hh _) e12) (show Q102 Z a0 a2 ka kb x0 x1 G1 w_sf h0 n0 _ h12 _ from ⟨(2 : Int32), rfl, N12, K13, (Or.inl ⟨rfl, (fun q => Or.elim q hf3 hf9), V12⟩)⟩)) (by decide) (by decide)
theorem ef103 (m : MethodId) (x0 : Addr) (x1 : Int32) (x2 : Addr) (x3 : Int32) (x4 : Int32) : entryFrame m #[(.ref x0), (.int x1), (.ref x2), (.int x3), (.int x4)] 7 = mkF m 0 #[.val (.ref x0), .val (.int x1), .val (.ref x2), .val (.int x3), .val (.int x4), .unset, .unset] [] := by first | (simp [entryFrame, mkF, argsToLocals, Value.category]; done) | rfl
def Q103 (Z : State) (a0 : Addr) (a2 : Addr) (ka : ClassId) (kb : ClassId) (x0 : Int32) (x1 : Int32) (x2 : Int32) (G1 : Int32) (w_sf : Value) (h0 : Heap) (n0 : Nat) (v : Option Value) (h : Heap) (L : List Loc) : Prop := ∃ (r : Int32), v = some (.int r) ∧ Fr n0 L ∧ Keep h0 h [a2] ∧ ((r = (3 : Int32) ∧ ¬ ((255 : Int32) < x0 ∨ (255 : Int32) < x1 ∨ (255 : Int32) < x2) ∧ Arv Z h a2 kb .byte (3 : Int32) [(.int (bL x0)), (.int (bL x1)), (.int (bL x2))] (.int 0)) ∨ (r = (0 : Int32) ∧ (255 : Int32) < x0) ∨ (r = (1 : Int32) ∧ (255 : Int32) < x1) ∨ (r = (2 : Int32) ∧ (255 : Int32) < x2))
theorem rm103 (l : Launch) (Z : State) (a0' : Array Value) (hw : ∀ d ∈ tables_1, d.before a0' Z = true) (ws : List Jvm.Cond) (a0 : Addr) (a2 : Addr) (ka : ClassId) (kb : ClassId) (x0 : Int32) (x1 : Int32) (x2 : Int32) (G1 : Int32) (w_sf : Value) (h0 : Heap) (n0 : Nat) (O : Old Z n0 h0) (W : Wd Z G1 w_sf) (pf0 : Arv Z h0 a0 ka .char (3 : Int32) [(.int x0), (.int x1), (.int x2)] (.int 0)) (pf1 : Arv Z h0 a2 kb .byte (3 : Int32) [(.int 0), (.int 0), (.int 0)] (.int 0)) (gp_a2 : n0 ≤ a2) (np_a0_a2 : a0 ≠ a2) :
    MetFree l mq11 (head1 (Jvm.Cond.code mq11 jdk_52_method_21_code 7 (some .int) :: ws) ({ frames := 0, cells := 0, slots := 0, locals := 0 } : Room)) (fun a U => a = #[(.ref a0), (.int 0), (.ref a2), (.int 0), (.int 3)] ∧ Z.Warmed39 U.vm ∧ U.heap = h0) (fun _ _ _ _ _ => True) (fun _ U o U' => ∃ v L, o = .returned v ∧ Q103 Z a0 a2 ka kb x0 x1 x2 G1 w_sf h0 n0 v U'.heap L ∧ FrameEnd U o U' L ({ frames := 0, cells := 0, slots := 0, locals := 0 } : Room).cells ({ frames := 0, cells := 0, slots := 0, locals := 0 } : Room).slots) := by
  refine MetFree.of_bodySF (plainFor_of_name pn3) hisR ?_
  intro p e s m args below meth c s₁ Bd hml0 hP hK
  obtain ⟨rfl, hZ, hh⟩ := hP
  have hx := Bd.exec
  have hby := Bd.bytes
  have hml : c.maxLocals = 7 := hml0
  have hown : s.vm.findClass "java/lang/StringUTF16" = some m.cls := findClass_of_methodNamed Bd.named
  have hnm := (name_of_methodNamed Bd.named Bd.method).1
  have hk := Bd.notSynchronized
  have X0 : Stand p l e ({ frames := 0, cells := 0, slots := 0, locals := 0 } : Room) s m #[(.ref a0), (.int 0), (.ref a2), (.int 0), (.int 3)] below meth c s₁ [] 0 0 := Stand.of_body Bd
  have hh2 := hh
  have e0 : s₁.heap = h0 := by rw [← hh, Bd.state]; rfl
  have N0 := Fr.nil n0
  show Gl p e below (Pos 0 0 (Q103 Z a0 a2 ka kb x0 x1 x2 G1 w_sf h0 n0) s) s₁ _
  refine Gl.cast (ef103 m a0 (0 : Int32) a2 (0 : Int32) (3 : Int32)) ?_
  refine gb (mkF m 1 #[vr a0, vi 0, vr a2, vi 0, vi 3, .unset, .unset] [(.int 0)]) (fun _ k => XS.iconst X0.here hx rfl (hb hby d10_0) k) ?_
  refine gb (mkF m 3 #[vr a0, vi 0, vr a2, vi 0, vi 3, vi 0, .unset] []) (fun _ k => XS.istore X0.here hx rfl (hb hby d10_1) rfl (l' := #[vr a0, vi 0, vr a2, vi 0, vi 3, vi 0, .unset]) rfl k) ?_
  refine gb (mkF m 5 #[vr a0, vi 0, vr a2, vi 0, vi 3, vi 0, .unset] [(.int 0)]) (fun _ k => XS.iload X0.here hx rfl (hb hby d10_3) rfl k) ?_
  refine gb (mkF m 7 #[vr a0, vi 0, vr a2, vi 0, vi 3, vi 0, .unset] [(.int 3), (.int 0)]) (fun _ k => XS.iload X0.here hx rfl (hb hby d10_5) rfl k) ?_
  refine gb (mkF m 10 #[vr a0, vi 0, vr a2, vi 0, vi 3, vi 0, .unset] []) (fun _ k => XS.icmpNo X0.here hx rfl (hb hby d10_7) rfl (tlt (by decide : (0 : Int32) < (3 : Int32))).2.1 k) ?_
  refine gb (mkF m 11 #[vr a0, vi 0, vr a2, vi 0, vi 3, vi 0, .unset] [(.ref a0)]) (fun _ k => XS.aloadN X0.here hx rfl (hb hby d10_10) rfl rfl k) ?_
  refine gb (mkF m 12 #[vr a0, vi 0, vr a2, vi 0, vi 3, vi 0, .unset] [(.int 0), (.ref a0)]) (fun _ k => XS.iloadN X0.here hx rfl (hb hby d10_11) rfl k) ?_
  obtain ⟨cl1, Ar1, qa1, Sa1, Na1, Ha1, Ga1⟩ := id pf0
  have hin2 : ¬ ((0 : Int32) < 0 ∨ cl1.slots.size ≤ ((0 : Int32)).toNatClampNeg) := inb_of Sa1 ⟨by decide, by decide⟩
  refine gb (mkF m 13 #[vr a0, vi 0, vr a2, vi 0, vi 3, vi 0, .unset] [(.int x0)]) (X0.caload hx (j := (0 : Int32)) (v := (.int x0)) (by rw [e0]; exact Ar1.1) (State.isArrayOf_alike hZ.alike Ar1.2.1) Ar1.2.2 hin2 (Has.at Ha1 hin2 rfl) (g := (mkF m 12 #[vr a0, vi 0, vr a2, vi 0, vi 3, vi 0, .unset] [(.int 0), (.ref a0)])) rfl rfl (hb hby d10_12)) ?_
  refine gb (mkF m 15 #[vr a0, vi 0, vr a2, vi 0, vi 3, vi 0, vi x0] []) (fun _ k => XS.istore X0.here hx rfl (hb hby d10_13) rfl (l' := #[vr a0, vi 0, vr a2, vi 0, vi 3, vi 0, vi x0]) rfl k) ?_
  refine gb (mkF m 17 #[vr a0, vi 0, vr a2, vi 0, vi 3, vi 0, vi x0] [(.int x0)]) (fun _ k => XS.iload X0.here hx rfl (hb hby d10_15) rfl k) ?_
  refine gb (mkF m 20 #[vr a0, vi 0, vr a2, vi 0, vi 3, vi 0, vi x0] [(.int 255), (.int x0)]) (fun _ k => XS.sipush X0.here hx rfl (hb hby d10_17) k) ?_
  by_cases hf3 : (255 : Int32) < x0
  · refine gb (mkF m 23 #[vr a0, vi 0, vr a2, vi 0, vi 3, vi 0, vi x0] []) (fun _ k => XS.icmpNo X0.here hx rfl (hb hby d10_20) rfl (tlt hf3).2.2.2 k) ?_
    refine gb (mkF m 25 #[vr a0, vi 0, vr a2, vi 0, vi 3, vi 0, vi x0] [(.int 0)]) (fun _ k => XS.iload X0.here hx rfl (hb hby d10_23) rfl k) ?_
    exact Gl.outI X0 hx hk Bd.returns (hb hby d10_25) (Eq.mpr (congrArg (fun hh => Q103 Z a0 a2 ka kb x0 x1 x2 G1 w_sf h0 n0 _ hh _) e0) (show Q103 Z a0 a2 ka kb x0 x1 x2 G1 w_sf h0 n0 _ h0 _ from ⟨(0 : Int32), rfl, N0, (Keep.refl h0 [a2]), (Or.inr (Or.inl ⟨rfl, hf3⟩))⟩)) (by decide) (by decide)
  · refine gb (mkF m 26 #[vr a0, vi 0, vr a2, vi 0, vi 3, vi 0, vi x0] []) (fun _ k => XS.icmpYes X0.here hx rfl (pc0 := 20) (pc' := 26) rfl (hb hby d10_20) rfl (flt hf3).2.2.2 (by decide) (by decide) k) ?_
    refine gb (mkF m 27 #[vr a0, vi 0, vr a2, vi 0, vi 3, vi 0, vi x0] [(.ref a2)]) (fun _ k => XS.aloadN X0.here hx rfl (hb hby d10_26) rfl rfl k) ?_
    refine gb (mkF m 28 #[vr a0, vi 0, vr a2, vi 0, vi 3, vi 0, vi x0] [(.int 0), (.ref a2)]) (fun _ k => XS.iloadN X0.here hx rfl (hb hby d10_27) rfl k) ?_
    refine gb (mkF m 30 #[vr a0, vi 0, vr a2, vi 0, vi 3, vi 0, vi x0] [(.int x0), (.int 0), (.ref a2)]) (fun _ k => XS.iload X0.here hx rfl (hb hby d10_28) rfl k) ?_
    refine gb (mkF m 31 #[vr a0, vi 0, vr a2, vi 0, vi 3, vi 0, vi x0] [(.int (x0.toInt8.toInt32)), (.int 0), (.ref a2)]) (fun _ k => XS.i2b X0.here hx rfl (hb hby d10_30) rfl k) ?_
    obtain ⟨cl4, Ar4, qa4, Sa4, Na4, Ha4, Ga4⟩ := id pf1
    have hin5 : ¬ ((0 : Int32) < 0 ∨ cl4.slots.size ≤ ((0 : Int32)).toNatClampNeg) := inb_of Sa4 ⟨by decide, by decide⟩
    obtain ⟨T5, h5, X5, e5, W5, st5⟩ := stB X0 hx hZ e0 Ar4 (j := (0 : Int32)) hin5 (g := (mkF m 31 #[vr a0, vi 0, vr a2, vi 0, vi 3, vi 0, vi x0] [(.int (x0.toInt8.toInt32)), (.int 0), (.ref a2)])) rfl rfl (hb hby d10_31)
    have V5 : Arv Z h5 a2 kb .byte (3 : Int32) [(.int ((x0.toInt8.toInt32).toInt8.toInt32)), (.int 0), (.int 0)] (.int 0) := Arv.set Ar4 qa4 Sa4 Na4 Ha4 Ga4 (fits_nar_byte _) W5 0 rfl (Nat.le_of_ble_eq_true rfl)
    have N5 := Fr.snoc X5 N0 gp_a2
    refine gb (mkF m 32 #[vr a0, vi 0, vr a2, vi 0, vi 3, vi 0, vi x0] []) st5 ?_
    refine gb (mkF m 35 #[vr a0, vi 1, vr a2, vi 0, vi 3, vi 0, vi x0] []) (fun _ k => XS.iinc X5.here hx rfl (hb hby d10_32) rfl (l' := #[vr a0, vi 1, vr a2, vi 0, vi 3, vi 0, vi x0]) rfl k) ?_
    refine gb (mkF m 38 #[vr a0, vi 1, vr a2, vi 1, vi 3, vi 0, vi x0] []) (fun _ k => XS.iinc X5.here hx rfl (hb hby d10_35) rfl (l' := #[vr a0, vi 1, vr a2, vi 1, vi 3, vi 0, vi x0]) rfl k) ?_
    refine gb (mkF m 41 #[vr a0, vi 1, vr a2, vi 1, vi 3, vi 1, vi x0] []) (fun _ k => XS.iinc X5.here hx rfl (hb hby d10_38) rfl (l' := #[vr a0, vi 1, vr a2, vi 1, vi 3, vi 1, vi x0]) rfl k) ?_
    refine gb (mkF m 3 #[vr a0, vi 1, vr a2, vi 1, vi 3, vi 1, vi x0] []) (fun _ k => XS.goto X5.here hx rfl (pc0 := 41) (pc' := 3) rfl (hb hby d10_41) (by decide) (by decide) k) ?_
    refine gb (mkF m 5 #[vr a0, vi 1, vr a2, vi 1, vi 3, vi 1, vi x0] [(.int 1)]) (fun _ k => XS.iload X5.here hx rfl (hb hby d10_3) rfl k) ?_
    refine gb (mkF m 7 #[vr a0, vi 1, vr a2, vi 1, vi 3, vi 1, vi x0] [(.int 3), (.int 1)]) (fun _ k => XS.iload X5.here hx rfl (hb hby d10_5) rfl k) ?_
    refine gb (mkF m 10 #[vr a0, vi 1, vr a2, vi 1, vi 3, vi 1, vi x0] []) (fun _ k => XS.icmpNo X5.here hx rfl (hb hby d10_7) rfl (tlt (by decide : (1 : Int32) < (3 : Int32))).2.1 k) ?_
    refine gb (mkF m 11 #[vr a0, vi 1, vr a2, vi 1, vi 3, vi 1, vi x0] [(.ref a0)]) (fun _ k => XS.aloadN X5.here hx rfl (hb hby d10_10) rfl rfl k) ?_
    refine gb (mkF m 12 #[vr a0, vi 1, vr a2, vi 1, vi 3, vi 1, vi x0] [(.int 1), (.ref a0)]) (fun _ k => XS.iloadN X5.here hx rfl (hb hby d10_11) rfl k) ?_
    have f6 := (Arv.other pf0 W5 np_a0_a2)
    obtain ⟨cl7, Ar7, qa7, Sa7, Na7, Ha7, Ga7⟩ := id f6
    have hin8 : ¬ ((1 : Int32) < 0 ∨ cl7.slots.size ≤ ((1 : Int32)).toNatClampNeg) := inb_of Sa7 ⟨by decide, by decide⟩
    refine gb (mkF m 13 #[vr a0, vi 1, vr a2, vi 1, vi 3, vi 1, vi x0] [(.int x1)]) (X5.caload hx (j := (1 : Int32)) (v := (.int x1)) (by rw [e5]; exact Ar7.1) (State.isArrayOf_alike hZ.alike Ar7.2.1) Ar7.2.2 hin8 (Has.at Ha7 hin8 (congrArg (fun k => List.getD ([(.int x0), (.int x1), (.int x2)] : List Value) k (.int 0)) (by decide : ((1 : Int32)).toNatClampNeg = 1))) (g := (mkF m 12 #[vr a0, vi 1, vr a2, vi 1, vi 3, vi 1, vi x0] [(.int 1), (.ref a0)])) rfl rfl (hb hby d10_12)) ?_
    refine gb (mkF m 15 #[vr a0, vi 1, vr a2, vi 1, vi 3, vi 1, vi x1] []) (fun _ k => XS.istore X5.here hx rfl (hb hby d10_13) rfl (l' := #[vr a0, vi 1, vr a2, vi 1, vi 3, vi 1, vi x1]) rfl k) ?_
    refine gb (mkF m 17 #[vr a0, vi 1, vr a2, vi 1, vi 3, vi 1, vi x1] [(.int x1)]) (fun _ k => XS.iload X5.here hx rfl (hb hby d10_15) rfl k) ?_
    refine gb (mkF m 20 #[vr a0, vi 1, vr a2, vi 1, vi 3, vi 1, vi x1] [(.int 255), (.int x1)]) (fun _ k => XS.sipush X5.here hx rfl (hb hby d10_17) k) ?_
    by_cases hf9 : (255 : Int32) < x1
    · refine gb (mkF m 23 #[vr a0, vi 1, vr a2, vi 1, vi 3, vi 1, vi x1] []) (fun _ k => XS.icmpNo X5.here hx rfl (hb hby d10_20) rfl (tlt hf9).2.2.2 k) ?_
      refine gb (mkF m 25 #[vr a0, vi 1, vr a2, vi 1, vi 3, vi 1, vi x1] [(.int 1)]) (fun _ k => XS.iload X5.here hx rfl (hb hby d10_23) rfl k) ?_
      have K10 := ((Keep.refl h0 [a2]).wr W5 (Or.inl (List.mem_of_getElem? (i := 0) rfl)))
      exact Gl.outI X5 hx hk Bd.returns (hb hby d10_25) (Eq.mpr (congrArg (fun hh => Q103 Z a0 a2 ka kb x0 x1 x2 G1 w_sf h0 n0 _ hh _) e5) (show Q103 Z a0 a2 ka kb x0 x1 x2 G1 w_sf h0 n0 _ h5 _ from ⟨(1 : Int32), rfl, N5, K10, (Or.inr (Or.inr (Or.inl ⟨rfl, hf9⟩)))⟩)) (by decide) (by decide)
    · refine gb (mkF m 26 #[vr a0, vi 1, vr a2, vi 1, vi 3, vi 1, vi x1] []) (fun _ k => XS.icmpYes X5.here hx rfl (pc0 := 20) (pc' := 26) rfl (hb hby d10_20) rfl (flt hf9).2.2.2 (by decide) (by decide) k) ?_
      refine gb (mkF m 27 #[vr a0, vi 1, vr a2, vi 1, vi 3, vi 1, vi x1] [(.ref a2)]) (fun _ k => XS.aloadN X5.here hx rfl (hb hby d10_26) rfl rfl k) ?_
      refine gb (mkF m 28 #[vr a0, vi 1, vr a2, vi 1, vi 3, vi 1, vi x1] [(.int 1), (.ref a2)]) (fun _ k => XS.iloadN X5.here hx rfl (hb hby d10_27) rfl k) ?_
      refine gb (mkF m 30 #[vr a0, vi 1, vr a2, vi 1, vi 3, vi 1, vi x1] [(.int x1), (.int 1), (.ref a2)]) (fun _ k => XS.iload X5.here hx rfl (hb hby d10_28) rfl k) ?_
      refine gb (mkF m 31 #[vr a0, vi 1, vr a2, vi 1, vi 3, vi 1, vi x1] [(.int (x1.toInt8.toInt32)), (.int 1), (.ref a2)]) (fun _ k => XS.i2b X5.here hx rfl (hb hby d10_30) rfl k) ?_
      obtain ⟨cl11, Ar11, qa11, Sa11, Na11, Ha11, Ga11⟩ := id V5
      have hin12 : ¬ ((1 : Int32) < 0 ∨ cl11.slots.size ≤ ((1 : Int32)).toNatClampNeg) := inb_of Sa11 ⟨by decide, by decide⟩
      obtain ⟨T12, h12, X12, e12, W12, st12⟩ := stB X5 hx hZ e5 Ar11 (j := (1 : Int32)) hin12 (g := (mkF m 31 #[vr a0, vi 1, vr a2, vi 1, vi 3, vi 1, vi x1] [(.int (x1.toInt8.toInt32)), (.int 1), (.ref a2)])) rfl rfl (hb hby d10_31)
      have V12 : Arv Z h12 a2 kb .byte (3 : Int32) [(.int ((x0.toInt8.toInt32).toInt8.toInt32)), (.int ((x1.toInt8.toInt32).toInt8.toInt32)), (.int 0)] (.int 0) := Arv.set Ar11 qa11 Sa11 Na11 Ha11 Ga11 (fits_nar_byte _) W12 1 (by decide) (Nat.le_of_ble_eq_true rfl)
      have N12 := Fr.snoc X12 N5 gp_a2
      refine gb (mkF m 32 #[vr a0, vi 1, vr a2, vi 1, vi 3, vi 1, vi x1] []) st12 ?_
      refine gb (mkF m 35 #[vr a0, vi 2, vr a2, vi 1, vi 3, vi 1, vi x1] []) (fun _ k => XS.iinc X12.here hx rfl (hb hby d10_32) rfl (l' := #[vr a0, vi 2, vr a2, vi 1, vi 3, vi 1, vi x1]) rfl k) ?_
      refine gb (mkF m 38 #[vr a0, vi 2, vr a2, vi 2, vi 3, vi 1, vi x1] []) (fun _ k => XS.iinc X12.here hx rfl (hb hby d10_35) rfl (l' := #[vr a0, vi 2, vr a2, vi 2, vi 3, vi 1, vi x1]) rfl k) ?_
      refine gb (mkF m 41 #[vr a0, vi 2, vr a2, vi 2, vi 3, vi 2, vi x1] []) (fun _ k => XS.iinc X12.here hx rfl (hb hby d10_38) rfl (l' := #[vr a0, vi 2, vr a2, vi 2, vi 3, vi 2, vi x1]) rfl k) ?_
      refine gb (mkF m 3 #[vr a0, vi 2, vr a2, vi 2, vi 3, vi 2, vi x1] []) (fun _ k => XS.goto X12.here hx rfl (pc0 := 41) (pc' := 3) rfl (hb hby d10_41) (by decide) (by decide) k) ?_
      refine gb (mkF m 5 #[vr a0, vi 2, vr a2, vi 2, vi 3, vi 2, vi x1] [(.int 2)]) (fun _ k => XS.iload X12.here hx rfl (hb hby d10_3) rfl k) ?_
      refine gb (mkF m 7 #[vr a0, vi 2, vr a2, vi 2, vi 3, vi 2, vi x1] [(.int 3), (.int 2)]) (fun _ k => XS.iload X12.here hx rfl (hb hby d10_5) rfl k) ?_
      refine gb (mkF m 10 #[vr a0, vi 2, vr a2, vi 2, vi 3, vi 2, vi x1] []) (fun _ k => XS.icmpNo X12.here hx rfl (hb hby d10_7) rfl (tlt (by decide : (2 : Int32) < (3 : Int32))).2.1 k) ?_
      refine gb (mkF m 11 #[vr a0, vi 2, vr a2, vi 2, vi 3, vi 2, vi x1] [(.ref a0)]) (fun _ k => XS.aloadN X12.here hx rfl (hb hby d10_10) rfl rfl k) ?_
      refine gb (mkF m 12 #[vr a0, vi 2, vr a2, vi 2, vi 3, vi 2, vi x1] [(.int 2), (.ref a0)]) (fun _ k => XS.iloadN X12.here hx rfl (hb hby d10_11) rfl k) ?_
      have f13 := (Arv.other f6 W12 np_a0_a2)
      obtain ⟨cl14, Ar14, qa14, Sa14, Na14, Ha14, Ga14⟩ := id f13
      have hin15 : ¬ ((2 : Int32) < 0 ∨ cl14.slots.size ≤ ((2 : Int32)).toNatClampNeg) := inb_of Sa14 ⟨by decide, by decide⟩
      refine gb (mkF m 13 #[vr a0, vi 2, vr a2, vi 2, vi 3, vi 2, vi x1] [(.int x2)]) (X12.caload hx (j := (2 : Int32)) (v := (.int x2)) (by rw [e12]; exact Ar14.1) (State.isArrayOf_alike hZ.alike Ar14.2.1) Ar14.2.2 hin15 (Has.at Ha14 hin15 (congrArg (fun k => List.getD ([(.int x0), (.int x1), (.int x2)] : List Value) k (.int 0)) (by decide : ((2 : Int32)).toNatClampNeg = 2))) (g := (mkF m 12 #[vr a0, vi 2, vr a2, vi 2, vi 3, vi 2, vi x1] [(.int 2), (.ref a0)])) rfl rfl (hb hby d10_12)) ?_
      refine gb (mkF m 15 #[vr a0, vi 2, vr a2, vi 2, vi 3, vi 2, vi x2] []) (fun _ k => XS.istore X12.here hx rfl (hb hby d10_13) rfl (l' := #[vr a0, vi 2, vr a2, vi 2, vi 3, vi 2, vi x2]) rfl k) ?_
      refine gb (mkF m 17 #[vr a0, vi 2, vr a2, vi 2, vi 3, vi 2, vi x2] [(.int x2)]) (fun _ k => XS.iload X12.here hx rfl (hb hby d10_15) rfl k) ?_
      refine gb (mkF m 20 #[vr a0, vi 2, vr a2, vi 2, vi 3, vi 2, vi x2] [(.int 255), (.int x2)]) (fun _ k => XS.sipush X12.here hx rfl (hb hby d10_17) k) ?_
      by_cases hf16 : (255 : Int32) < x2
      · refine gb (mkF m 23 #[vr a0, vi 2, vr a2, vi 2, vi 3, vi 2, vi x2] []) (fun _ k => XS.icmpNo X12.here hx rfl (hb hby d10_20) rfl (tlt hf16).2.2.2 k) ?_
        refine gb (mkF m 25 #[vr a0, vi 2, vr a2, vi 2, vi 3, vi 2, vi x2] [(.int 2)]) (fun _ k => XS.iload X12.here hx rfl (hb hby d10_23) rfl k) ?_
        have K17 := (((Keep.refl h0 [a2]).wr W5 (Or.inl (List.mem_of_getElem? (i := 0) rfl))).wr W12 (Or.inl (List.mem_of_getElem? (i := 0) rfl)))
        exact Gl.outI X12 hx hk Bd.returns (hb hby d10_25) (Eq.mpr (congrArg (fun hh => Q103 Z a0 a2 ka kb x0 x1 x2 G1 w_sf h0 n0 _ hh _) e12) (show Q103 Z a0 a2 ka kb x0 x1 x2 G1 w_sf h0 n0 _ h12 _ from ⟨(2 : Int32), rfl, N12, K17, (Or.inr (Or.inr (Or.inr (⟨rfl, hf16⟩))))⟩)) (by decide) (by decide)
      · refine gb (mkF m 26 #[vr a0, vi 2, vr a2, vi 2, vi 3, vi 2, vi x2] []) (fun _ k => XS.icmpYes X12.here hx rfl (pc0 := 20) (pc' := 26) rfl (hb hby d10_20) rfl (flt hf16).2.2.2 (by decide) (by decide) k) ?_
        refine gb (mkF m 27 #[vr a0, vi 2, vr a2, vi 2, vi 3, vi 2, vi x2] [(.ref a2)]) (fun _ k => XS.aloadN X12.here hx rfl (hb hby d10_26) rfl rfl k) ?_
        refine gb (mkF m 28 #[vr a0, vi 2, vr a2, vi 2, vi 3, vi 2, vi x2] [(.int 2), (.ref a2)]) (fun _ k => XS.iloadN X12.here hx rfl (hb hby d10_27) rfl k) ?_
        refine gb (mkF m 30 #[vr a0, vi 2, vr a2, vi 2, vi 3, vi 2, vi x2] [(.int x2), (.int 2), (.ref a2)]) (fun _ k => XS.iload X12.here hx rfl (hb hby d10_28) rfl k) ?_
        refine gb (mkF m 31 #[vr a0, vi 2, vr a2, vi 2, vi 3, vi 2, vi x2] [(.int (x2.toInt8.toInt32)), (.int 2), (.ref a2)]) (fun _ k => XS.i2b X12.here hx rfl (hb hby d10_30) rfl k) ?_
        obtain ⟨cl18, Ar18, qa18, Sa18, Na18, Ha18, Ga18⟩ := id V12
        have hin19 : ¬ ((2 : Int32) < 0 ∨ cl18.slots.size ≤ ((2 : Int32)).toNatClampNeg) := inb_of Sa18 ⟨by decide, by decide⟩
        obtain ⟨T19, h19, X19, e19, W19, st19⟩ := stB X12 hx hZ e12 Ar18 (j := (2 : Int32)) hin19 (g := (mkF m 31 #[vr a0, vi 2, vr a2, vi 2, vi 3, vi 2, vi x2] [(.int (x2.toInt8.toInt32)), (.int 2), (.ref a2)])) rfl rfl (hb hby d10_31)
        have V19 : Arv Z h19 a2 kb .byte (3 : Int32) [(.int ((x0.toInt8.toInt32).toInt8.toInt32)), (.int ((x1.toInt8.toInt32).toInt8.toInt32)), (.int ((x2.toInt8.toInt32).toInt8.toInt32))] (.int 0) := Arv.set Ar18 qa18 Sa18 Na18 Ha18 Ga18 (fits_nar_byte _) W19 2 (by decide) (Nat.le_of_ble_eq_true rfl)
        have N19 := Fr.snoc X19 N12 gp_a2
        refine gb (mkF m 32 #[vr a0, vi 2, vr a2, vi 2, vi 3, vi 2, vi x2] []) st19 ?_
        refine gb (mkF m 35 #[vr a0, vi 3, vr a2, vi 2, vi 3, vi 2, vi x2] []) (fun _ k => XS.iinc X19.here hx rfl (hb hby d10_32) rfl (l' := #[vr a0, vi 3, vr a2, vi 2, vi 3, vi 2, vi x2]) rfl k) ?_
        refine gb (mkF m 38 #[vr a0, vi 3, vr a2, vi 3, vi 3, vi 2, vi x2] []) (fun _ k => XS.iinc X19.here hx rfl (hb hby d10_35) rfl (l' := #[vr a0, vi 3, vr a2, vi 3, vi 3, vi 2, vi x2]) rfl k) ?_
        refine gb (mkF m 41 #[vr a0, vi 3, vr a2, vi 3, vi 3, vi 3, vi x2] []) (fun _ k => XS.iinc X19.here hx rfl (hb hby d10_38) rfl (l' := #[vr a0, vi 3, vr a2, vi 3, vi 3, vi 3, vi x2]) rfl k) ?_
        refine gb (mkF m 3 #[vr a0, vi 3, vr a2, vi 3, vi 3, vi 3, vi x2] []) (fun _ k => XS.goto X19.here hx rfl (pc0 := 41) (pc' := 3) rfl (hb hby d10_41) (by decide) (by decide) k) ?_
        refine gb (mkF m 5 #[vr a0, vi 3, vr a2, vi 3, vi 3, vi 3, vi x2] [(.int 3)]) (fun _ k => XS.iload X19.here hx rfl (hb hby d10_3) rfl k) ?_
        refine gb (mkF m 7 #[vr a0, vi 3, vr a2, vi 3, vi 3, vi 3, vi x2] [(.int 3), (.int 3)]) (fun _ k => XS.iload X19.here hx rfl (hb hby d10_5) rfl k) ?_
        refine gb (mkF m 44 #[vr a0, vi 3, vr a2, vi 3, vi 3, vi 3, vi x2] []) (fun _ k => XS.icmpYes X19.here hx rfl (pc0 := 7) (pc' := 44) rfl (hb hby d10_7) rfl (flt (by decide : ¬ ((3 : Int32) < (3 : Int32)))).2.1 (by decide) (by decide) k) ?_
        refine gb (mkF m 46 #[vr a0, vi 3, vr a2, vi 3, vi 3, vi 3, vi x2] [(.int 3)]) (fun _ k => XS.iload X19.here hx rfl (hb hby d10_44) rfl k) ?_
        have K20 := ((((Keep.refl h0 [a2]).wr W5 (Or.inl (List.mem_of_getElem? (i := 0) rfl))).wr W12 (Or.inl (List.mem_of_getElem? (i := 0) rfl))).wr W19 (Or.inl (List.mem_of_getElem? (i := 0) rfl)))
        exact Gl.outI X19 hx hk Bd.returns (hb hby d10_46) (Eq.mpr (congrArg (fun hh => Q103 Z a0 a2 ka kb x0 x1 x2 G1 w_sf h0 n0 _ hh _) e19) (show Q103 Z a0 a2 ka kb x0 x1 x2 G1 w_sf h0 n0 _ h19 _ from ⟨(3 : Int32), rfl, N19, K20, (Or.inl ⟨rfl, (fun q => Or.elim q hf3 (fun q => Or.elim q hf9 hf16)), V19⟩)⟩)) (by decide) (by decide)
theorem ef104 (m : MethodId) (x0 : Addr) (x1 : Int32) (x2 : Addr) (x3 : Int32) (x4 : Int32) : entryFrame m #[(.ref x0), (.int x1), (.ref x2), (.int x3), (.int x4)] 7 = mkF m 0 #[.val (.ref x0), .val (.int x1), .val (.ref x2), .val (.int x3), .val (.int x4), .unset, .unset] [] := by first | (simp [entryFrame, mkF, argsToLocals, Value.category]; done) | rfl
def Q104 (Z : State) (a0 : Addr) (a2 : Addr) (ka : ClassId) (kb : ClassId) (x0 : Int32) (x1 : Int32) (x2 : Int32) (x3 : Int32) (G1 : Int32) (w_sf : Value) (h0 : Heap) (n0 : Nat) (v : Option Value) (h : Heap) (L : List Loc) : Prop := ∃ (r : Int32), v = some (.int r) ∧ Fr n0 L ∧ Keep h0 h [a2] ∧ ((r = (4 : Int32) ∧ ¬ ((255 : Int32) < x0 ∨ (255 : Int32) < x1 ∨ (255 : Int32) < x2 ∨ (255 : Int32) < x3) ∧ Arv Z h a2 kb .byte (4 : Int32) [(.int (bL x0)), (.int (bL x1)), (.int (bL x2)), (.int (bL x3))] (.int 0)) ∨ (r = (0 : Int32) ∧ (255 : Int32) < x0) ∨ (r = (1 : Int32) ∧ (255 : Int32) < x1) ∨ (r = (2 : Int32) ∧ (255 : Int32) < x2) ∨ (r = (3 : Int32) ∧ (255 : Int32) < x3))
theorem rm104 (l : Launch) (Z : State) (a0' : Array Value) (hw : ∀ d ∈ tables_1, d.before a0' Z = true) (ws : List Jvm.Cond) (a0 : Addr) (a2 : Addr) (ka : ClassId) (kb : ClassId) (x0 : Int32) (x1 : Int32) (x2 : Int32) (x3 : Int32) (G1 : Int32) (w_sf : Value) (h0 : Heap) (n0 : Nat) (O : Old Z n0 h0) (W : Wd Z G1 w_sf) (pf0 : Arv Z h0 a0 ka .char (4 : Int32) [(.int x0), (.int x1), (.int x2), (.int x3)] (.int 0)) (pf1 : Arv Z h0 a2 kb .byte (4 : Int32) [(.int 0), (.int 0), (.int 0), (.int 0)] (.int 0)) (gp_a2 : n0 ≤ a2) (np_a0_a2 : a0 ≠ a2) :
    MetFree l mq11 (head1 (Jvm.Cond.code mq11 jdk_52_method_21_code 7 (some .int) :: ws) ({ frames := 0, cells := 0, slots := 0, locals := 0 } : Room)) (fun a U => a = #[(.ref a0), (.int 0), (.ref a2), (.int 0), (.int 4)] ∧ Z.Warmed39 U.vm ∧ U.heap = h0) (fun _ _ _ _ _ => True) (fun _ U o U' => ∃ v L, o = .returned v ∧ Q104 Z a0 a2 ka kb x0 x1 x2 x3 G1 w_sf h0 n0 v U'.heap L ∧ FrameEnd U o U' L ({ frames := 0, cells := 0, slots := 0, locals := 0 } : Room).cells ({ frames := 0, cells := 0, slots := 0, locals := 0 } : Room).slots) := by
  refine MetFree.of_bodySF (plainFor_of_name pn3) hisR ?_
  intro p e s m args below meth c s₁ Bd hml0 hP hK
  obtain ⟨rfl, hZ, hh⟩ := hP
  have hx := Bd.exec
  have hby := Bd.bytes
  have hml : c.maxLocals = 7 := hml0
  have hown : s.vm.findClass "java/lang/StringUTF16" = some m.cls := findClass_of_methodNamed Bd.named
  have hnm := (name_of_methodNamed Bd.named Bd.method).1
  have hk := Bd.notSynchronized
  have X0 : Stand p l e ({ frames := 0, cells := 0, slots := 0, locals := 0 } : Room) s m #[(.ref a0), (.int 0), (.ref a2), (.int 0), (.int 4)] below meth c s₁ [] 0 0 := Stand.of_body Bd
  have hh2 := hh
  have e0 : s₁.heap = h0 := by rw [← hh, Bd.state]; rfl
  have N0 := Fr.nil n0
  show Gl p e below (Pos 0 0 (Q104 Z a0 a2 ka kb x0 x1 x2 x3 G1 w_sf h0 n0) s) s₁ _
  refine Gl.cast (ef104 m a0 (0 : Int32) a2 (0 : Int32) (4 : Int32)) ?_
  refine gb (mkF m 1 #[vr a0, vi 0, vr a2, vi 0, vi 4, .unset, .unset] [(.int 0)]) (fun _ k => XS.iconst X0.here hx rfl (hb hby d10_0) k) ?_
  refine gb (mkF m 3 #[vr a0, vi 0, vr a2, vi 0, vi 4, vi 0, .unset] []) (fun _ k => XS.istore X0.here hx rfl (hb hby d10_1) rfl (l' := #[vr a0, vi 0, vr a2, vi 0, vi 4, vi 0, .unset]) rfl k) ?_
  refine gb (mkF m 5 #[vr a0, vi 0, vr a2, vi 0, vi 4, vi 0, .unset] [(.int 0)]) (fun _ k => XS.iload X0.here hx rfl (hb hby d10_3) rfl k) ?_
  refine gb (mkF m 7 #[vr a0, vi 0, vr a2, vi 0, vi 4, vi 0, .unset] [(.int 4), (.int 0)]) (fun _ k => XS.iload X0.here hx rfl (hb hby d10_5) rfl k) ?_
  refine gb (mkF m 10 #[vr a0, vi 0, vr a2, vi 0, vi 4, vi 0, .unset] []) (fun _ k => XS.icmpNo X0.here hx rfl (hb hby d10_7) rfl (tlt (by decide : (0 : Int32) < (4 : Int32))).2.1 k) ?_
  refine gb (mkF m 11 #[vr a0, vi 0, vr a2, vi 0, vi 4, vi 0, .unset] [(.ref a0)]) (fun _ k => XS.aloadN X0.here hx rfl (hb hby d10_10) rfl rfl k) ?_
  refine gb (mkF m 12 #[vr a0, vi 0, vr a2, vi 0, vi 4, vi 0, .unset] [(.int 0), (.ref a0)]) (fun _ k => XS.iloadN X0.here hx rfl (hb hby d10_11) rfl k) ?_
  obtain ⟨cl1, Ar1, qa1, Sa1, Na1, Ha1, Ga1⟩ := id pf0
  have hin2 : ¬ ((0 : Int32) < 0 ∨ cl1.slots.size ≤ ((0 : Int32)).toNatClampNeg) := inb_of Sa1 ⟨by decide, by decide⟩
  refine gb (mkF m 13 #[vr a0, vi 0, vr a2, vi 0, vi 4, vi 0, .unset] [(.int x0)]) (X0.caload hx (j := (0 : Int32)) (v := (.int x0)) (by rw [e0]; exact Ar1.1) (State.isArrayOf_alike hZ.alike Ar1.2.1) Ar1.2.2 hin2 (Has.at Ha1 hin2 rfl) (g := (mkF m 12 #[vr a0, vi 0, vr a2, vi 0, vi 4, vi 0, .unset] [(.int 0), (.ref a0)])) rfl rfl (hb hby d10_12)) ?_
  refine gb (mkF m 15 #[vr a0, vi 0, vr a2, vi 0, vi 4, vi 0, vi x0] []) (fun _ k => XS.istore X0.here hx rfl (hb hby d10_13) rfl (l' := #[vr a0, vi 0, vr a2, vi 0, vi 4, vi 0, vi x0]) rfl k) ?_
  refine gb (mkF m 17 #[vr a0, vi 0, vr a2, vi 0, vi 4, vi 0, vi x0] [(.int x0)]) (fun _ k => XS.iload X0.here hx rfl (hb hby d10_15) rfl k) ?_
  refine gb (mkF m 20 #[vr a0, vi 0, vr a2, vi 0, vi 4, vi 0, vi x0] [(.int 255), (.int x0)]) (fun _ k => XS.sipush X0.here hx rfl (hb hby d10_17) k) ?_
  by_cases hf3 : (255 : Int32) < x0
  · refine gb (mkF m 23 #[vr a0, vi 0, vr a2, vi 0, vi 4, vi 0, vi x0] []) (fun _ k => XS.icmpNo X0.here hx rfl (hb hby d10_20) rfl (tlt hf3).2.2.2 k) ?_
    refine gb (mkF m 25 #[vr a0, vi 0, vr a2, vi 0, vi 4, vi 0, vi x0] [(.int 0)]) (fun _ k => XS.iload X0.here hx rfl (hb hby d10_23) rfl k) ?_
    exact Gl.outI X0 hx hk Bd.returns (hb hby d10_25) (Eq.mpr (congrArg (fun hh => Q104 Z a0 a2 ka kb x0 x1 x2 x3 G1 w_sf h0 n0 _ hh _) e0) (show Q104 Z a0 a2 ka kb x0 x1 x2 x3 G1 w_sf h0 n0 _ h0 _ from ⟨(0 : Int32), rfl, N0, (Keep.refl h0 [a2]), (Or.inr (Or.inl ⟨rfl, hf3⟩))⟩)) (by decide) (by decide)
  · refine gb (mkF m 26 #[vr a0, vi 0, vr a2, vi 0, vi 4, vi 0, vi x0] []) (fun _ k => XS.icmpYes X0.here hx rfl (pc0 := 20) (pc' := 26) rfl (hb hby d10_20) rfl (flt hf3).2.2.2 (by decide) (by decide) k) ?_
    refine gb (mkF m 27 #[vr a0, vi 0, vr a2, vi 0, vi 4, vi 0, vi x0] [(.ref a2)]) (fun _ k => XS.aloadN X0.here hx rfl (hb hby d10_26) rfl rfl k) ?_
    refine gb (mkF m 28 #[vr a0, vi 0, vr a2, vi 0, vi 4, vi 0, vi x0] [(.int 0), (.ref a2)]) (fun _ k => XS.iloadN X0.here hx rfl (hb hby d10_27) rfl k) ?_
    refine gb (mkF m 30 #[vr a0, vi 0, vr a2, vi 0, vi 4, vi 0, vi x0] [(.int x0), (.int 0), (.ref a2)]) (fun _ k => XS.iload X0.here hx rfl (hb hby d10_28) rfl k) ?_
    refine gb (mkF m 31 #[vr a0, vi 0, vr a2, vi 0, vi 4, vi 0, vi x0] [(.int (x0.toInt8.toInt32)), (.int 0), (.ref a2)]) (fun _ k => XS.i2b X0.here hx rfl (hb hby d10_30) rfl k) ?_
    obtain ⟨cl4, Ar4, qa4, Sa4, Na4, Ha4, Ga4⟩ := id pf1
    have hin5 : ¬ ((0 : Int32) < 0 ∨ cl4.slots.size ≤ ((0 : Int32)).toNatClampNeg) := inb_of Sa4 ⟨by decide, by decide⟩
    obtain ⟨T5, h5, X5, e5, W5, st5⟩ := stB X0 hx hZ e0 Ar4 (j := (0 : Int32)) hin5 (g := (mkF m 31 #[vr a0, vi 0, vr a2, vi 0, vi 4, vi 0, vi x0] [(.int (x0.toInt8.toInt32)), (.int 0), (.ref a2)])) rfl rfl (hb hby d10_31)
    have V5 : Arv Z h5 a2 kb .byte (4 : Int32) [(.int ((x0.toInt8.toInt32).toInt8.toInt32)), (.int 0), (.int 0), (.int 0)] (.int 0) := Arv.set Ar4 qa4 Sa4 Na4 Ha4 Ga4 (fits_nar_byte _) W5 0 rfl (Nat.le_of_ble_eq_true rfl)
    have N5 := Fr.snoc X5 N0 gp_a2
    refine gb (mkF m 32 #[vr a0, vi 0, vr a2, vi 0, vi 4, vi 0, vi x0] []) st5 ?_
    refine gb (mkF m 35 #[vr a0, vi 1, vr a2, vi 0, vi 4, vi 0, vi x0] []) (fun _ k => XS.iinc X5.here hx rfl (hb hby d10_32) rfl (l' := #[vr a0, vi 1, vr a2, vi 0, vi 4, vi 0, vi x0]) rfl k) ?_
    refine gb (mkF m 38 #[vr a0, vi 1, vr a2, vi 1, vi 4, vi 0, vi x0] []) (fun _ k => XS.iinc X5.here hx rfl (hb hby d10_35) rfl (l' := #[vr a0, vi 1, vr a2, vi 1, vi 4, vi 0, vi x0]) rfl k) ?_
    refine gb (mkF m 41 #[vr a0, vi 1, vr a2, vi 1, vi 4, vi 1, vi x0] []) (fun _ k => XS.iinc X5.here hx rfl (hb hby d10_38) rfl (l' := #[vr a0, vi 1, vr a2, vi 1, vi 4, vi 1, vi x0]) rfl k) ?_
    refine gb (mkF m 3 #[vr a0, vi 1, vr a2, vi 1, vi 4, vi 1, vi x0] []) (fun _ k => XS.goto X5.here hx rfl (pc0 := 41) (pc' := 3) rfl (hb hby d10_41) (by decide) (by decide) k) ?_
    refine gb (mkF m 5 #[vr a0, vi 1, vr a2, vi 1, vi 4, vi 1, vi x0] [(.int 1)]) (fun _ k => XS.iload X5.here hx rfl (hb hby d10_3) rfl k) ?_
    refine gb (mkF m 7 #[vr a0, vi 1, vr a2, vi 1, vi 4, vi 1, vi x0] [(.int 4), (.int 1)]) (fun _ k => XS.iload X5.here hx rfl (hb hby d10_5) rfl k) ?_
    refine gb (mkF m 10 #[vr a0, vi 1, vr a2, vi 1, vi 4, vi 1, vi x0] []) (fun _ k => XS.icmpNo X5.here hx rfl (hb hby d10_7) rfl (tlt (by decide : (1 : Int32) < (4 : Int32))).2.1 k) ?_
    refine gb (mkF m 11 #[vr a0, vi 1, vr a2, vi 1, vi 4, vi 1, vi x0] [(.ref a0)]) (fun _ k => XS.aloadN X5.here hx rfl (hb hby d10_10) rfl rfl k) ?_
    refine gb (mkF m 12 #[vr a0, vi 1, vr a2, vi 1, vi 4, vi 1, vi x0] [(.int 1), (.ref a0)]) (fun _ k => XS.iloadN X5.here hx rfl (hb hby d10_11) rfl k) ?_
    have f6 := (Arv.other pf0 W5 np_a0_a2)
    obtain ⟨cl7, Ar7, qa7, Sa7, Na7, Ha7, Ga7⟩ := id f6
    have hin8 : ¬ ((1 : Int32) < 0 ∨ cl7.slots.size ≤ ((1 : Int32)).toNatClampNeg) := inb_of Sa7 ⟨by decide, by decide⟩
    refine gb (mkF m 13 #[vr a0, vi 1, vr a2, vi 1, vi 4, vi 1, vi x0] [(.int x1)]) (X5.caload hx (j := (1 : Int32)) (v := (.int x1)) (by rw [e5]; exact Ar7.1) (State.isArrayOf_alike hZ.alike Ar7.2.1) Ar7.2.2 hin8 (Has.at Ha7 hin8 (congrArg (fun k => List.getD ([(.int x0), (.int x1), (.int x2), (.int x3)] : List Value) k (.int 0)) (by decide : ((1 : Int32)).toNatClampNeg = 1))) (g := (mkF m 12 #[vr a0, vi 1, vr a2, vi 1, vi 4, vi 1, vi x0] [(.int 1), (.ref a0)])) rfl rfl (hb hby d10_12)) ?_
    refine gb (mkF m 15 #[vr a0, vi 1, vr a2, vi 1, vi 4, vi 1, vi x1] []) (fun _ k => XS.istore X5.here hx rfl (hb hby d10_13) rfl (l' := #[vr a0, vi 1, vr a2, vi 1, vi 4, vi 1, vi x1]) rfl k) ?_
    refine gb (mkF m 17 #[vr a0, vi 1, vr a2, vi 1, vi 4, vi 1, vi x1] [(.int x1)]) (fun _ k => XS.iload X5.here hx rfl (hb hby d10_15) rfl k) ?_
    refine gb (mkF m 20 #[vr a0, vi 1, vr a2, vi 1, vi 4, vi 1, vi x1] [(.int 255), (.int x1)]) (fun _ k => XS.sipush X5.here hx rfl (hb hby d10_17) k) ?_
    by_cases hf9 : (255 : Int32) < x1
    · refine gb (mkF m 23 #[vr a0, vi 1, vr a2, vi 1, vi 4, vi 1, vi x1] []) (fun _ k => XS.icmpNo X5.here hx rfl (hb hby d10_20) rfl (tlt hf9).2.2.2 k) ?_
      refine gb (mkF m 25 #[vr a0, vi 1, vr a2, vi 1, vi 4, vi 1, vi x1] [(.int 1)]) (fun _ k => XS.iload X5.here hx rfl (hb hby d10_23) rfl k) ?_
      have K10 := ((Keep.refl h0 [a2]).wr W5 (Or.inl (List.mem_of_getElem? (i := 0) rfl)))
      exact Gl.outI X5 hx hk Bd.returns (hb hby d10_25) (Eq.mpr (congrArg (fun hh => Q104 Z a0 a2 ka kb x0 x1 x2 x3 G1 w_sf h0 n0 _ hh _) e5) (show Q104 Z a0 a2 ka kb x0 x1 x2 x3 G1 w_sf h0 n0 _ h5 _ from ⟨(1 : Int32), rfl, N5, K10, (Or.inr (Or.inr (Or.inl ⟨rfl, hf9⟩)))⟩)) (by decide) (by decide)
    · refine gb (mkF m 26 #[vr a0, vi 1, vr a2, vi 1, vi 4, vi 1, vi x1] []) (fun _ k => XS.icmpYes X5.here hx rfl (pc0 := 20) (pc' := 26) rfl (hb hby d10_20) rfl (flt hf9).2.2.2 (by decide) (by decide) k) ?_
      refine gb (mkF m 27 #[vr a0, vi 1, vr a2, vi 1, vi 4, vi 1, vi x1] [(.ref a2)]) (fun _ k => XS.aloadN X5.here hx rfl (hb hby d10_26) rfl rfl k) ?_
      refine gb (mkF m 28 #[vr a0, vi 1, vr a2, vi 1, vi 4, vi 1, vi x1] [(.int 1), (.ref a2)]) (fun _ k => XS.iloadN X5.here hx rfl (hb hby d10_27) rfl k) ?_
      refine gb (mkF m 30 #[vr a0, vi 1, vr a2, vi 1, vi 4, vi 1, vi x1] [(.int x1), (.int 1), (.ref a2)]) (fun _ k => XS.iload X5.here hx rfl (hb hby d10_28) rfl k) ?_
      refine gb (mkF m 31 #[vr a0, vi 1, vr a2, vi 1, vi 4, vi 1, vi x1] [(.int (x1.toInt8.toInt32)), (.int 1), (.ref a2)]) (fun _ k => XS.i2b X5.here hx rfl (hb hby d10_30) rfl k) ?_
      obtain ⟨cl11, Ar11, qa11, Sa11, Na11, Ha11, Ga11⟩ := id V5
      have hin12 : ¬ ((1 : Int32) < 0 ∨ cl11.slots.size ≤ ((1 : Int32)).toNatClampNeg) := inb_of Sa11 ⟨by decide, by decide⟩
      obtain ⟨T12, h12, X12, e12, W12, st12⟩ := stB X5 hx hZ e5 Ar11 (j := (1 : Int32)) hin12 (g := (mkF m 31 #[vr a0, vi 1, vr a2, vi 1, vi 4, vi 1, vi x1] [(.int (x1.toInt8.toInt32)), (.int 1), (.ref a2)])) rfl rfl (hb hby d10_31)
      have V12 : Arv Z h12 a2 kb .byte (4 : Int32) [(.int ((x0.toInt8.toInt32).toInt8.toInt32)), (.int ((x1.toInt8.toInt32).toInt8.toInt32)), (.int 0), (.int 0)] (.int 0) := Arv.set Ar11 qa11 Sa11 Na11 Ha11 Ga11 (fits_nar_byte _) W12 1 (by decide) (Nat.le_of_ble_eq_true rfl)
      have N12 := Fr.snoc X12 N5 gp_a2
      refine gb (mkF m 32 #[vr a0, vi 1, vr a2, vi 1, vi 4, vi 1, vi x1] []) st12 ?_
      refine gb (mkF m 35 #[vr a0, vi 2, vr a2, vi 1, vi 4, vi 1, vi x1] []) (fun _ k => XS.iinc X12.here hx rfl (hb hby d10_32) rfl (l' := #[vr a0, vi 2, vr a2, vi 1, vi 4, vi 1, vi x1]) rfl k) ?_
      refine gb (mkF m 38 #[vr a0, vi 2, vr a2, vi 2, vi 4, vi 1, vi x1] []) (fun _ k => XS.iinc X12.here hx rfl (hb hby d10_35) rfl (l' := #[vr a0, vi 2, vr a2, vi 2, vi 4, vi 1, vi x1]) rfl k) ?_
      refine gb (mkF m 41 #[vr a0, vi 2, vr a2, vi 2, vi 4, vi 2, vi x1] []) (fun _ k => XS.iinc X12.here hx rfl (hb hby d10_38) rfl (l' := #[vr a0, vi 2, vr a2, vi 2, vi 4, vi 2, vi x1]) rfl k) ?_
      refine gb (mkF m 3 #[vr a0, vi 2, vr a2, vi 2, vi 4, vi 2, vi x1] []) (fun _ k => XS.goto X12.here hx rfl (pc0 := 41) (pc' := 3) rfl (hb hby d10_41) (by decide) (by decide) k) ?_
      refine gb (mkF m 5 #[vr a0, vi 2, vr a2, vi 2, vi 4, vi 2, vi x1] [(.int 2)]) (fun _ k => XS.iload X12.here hx rfl (hb hby d10_3) rfl k) ?_
      refine gb (mkF m 7 #[vr a0, vi 2, vr a2, vi 2, vi 4, vi 2, vi x1] [(.int 4), (.int 2)]) (fun _ k => XS.iload X12.here hx rfl (hb hby d10_5) rfl k) ?_
      refine gb (mkF m 10 #[vr a0, vi 2, vr a2, vi 2, vi 4, vi 2, vi x1] []) (fun _ k => XS.icmpNo X12.here hx rfl (hb hby d10_7) rfl (tlt (by decide : (2 : Int32) < (4 : Int32))).2.1 k) ?_
      refine gb (mkF m 11 #[vr a0, vi 2, vr a2, vi 2, vi 4, vi 2, vi x1] [(.ref a0)]) (fun _ k => XS.aloadN X12.here hx rfl (hb hby d10_10) rfl rfl k) ?_
      refine gb (mkF m 12 #[vr a0, vi 2, vr a2, vi 2, vi 4, vi 2, vi x1] [(.int 2), (.ref a0)]) (fun _ k => XS.iloadN X12.here hx rfl (hb hby d10_11) rfl k) ?_
      have f13 := (Arv.other f6 W12 np_a0_a2)
      obtain ⟨cl14, Ar14, qa14, Sa14, Na14, Ha14, Ga14⟩ := id f13
      have hin15 : ¬ ((2 : Int32) < 0 ∨ cl14.slots.size ≤ ((2 : Int32)).toNatClampNeg) := inb_of Sa14 ⟨by decide, by decide⟩
      refine gb (mkF m 13 #[vr a0, vi 2, vr a2, vi 2, vi 4, vi 2, vi x1] [(.int x2)]) (X12.caload hx (j := (2 : Int32)) (v := (.int x2)) (by rw [e12]; exact Ar14.1) (State.isArrayOf_alike hZ.alike Ar14.2.1) Ar14.2.2 hin15 (Has.at Ha14 hin15 (congrArg (fun k => List.getD ([(.int x0), (.int x1), (.int x2), (.int x3)] : List Value) k (.int 0)) (by decide : ((2 : Int32)).toNatClampNeg = 2))) (g := (mkF m 12 #[vr a0, vi 2, vr a2, vi 2, vi 4, vi 2, vi x1] [(.int 2), (.ref a0)])) rfl rfl (hb hby d10_12)) ?_
      refine gb (mkF m 15 #[vr a0, vi 2, vr a2, vi 2, vi 4, vi 2, vi x2] []) (fun _ k => XS.istore X12.here hx rfl (hb hby d10_13) rfl (l' := #[vr a0, vi 2, vr a2, vi 2, vi 4, vi 2, vi x2]) rfl k) ?_
      refine gb (mkF m 17 #[vr a0, vi 2, vr a2, vi 2, vi 4, vi 2, vi x2] [(.int x2)]) (fun _ k => XS.iload X12.here hx rfl (hb hby d10_15) rfl k) ?_
      refine gb (mkF m 20 #[vr a0, vi 2, vr a2, vi 2, vi 4, vi 2, vi x2] [(.int 255), (.int x2)]) (fun _ k => XS.sipush X12.here hx rfl (hb hby d10_17) k) ?_
      by_cases hf16 : (255 : Int32) < x2
      · refine gb (mkF m 23 #[vr a0, vi 2, vr a2, vi 2, vi 4, vi 2, vi x2] []) (fun _ k => XS.icmpNo X12.here hx rfl (hb hby d10_20) rfl (tlt hf16).2.2.2 k) ?_
        refine gb (mkF m 25 #[vr a0, vi 2, vr a2, vi 2, vi 4, vi 2, vi x2] [(.int 2)]) (fun _ k => XS.iload X12.here hx rfl (hb hby d10_23) rfl k) ?_
        have K17 := (((Keep.refl h0 [a2]).wr W5 (Or.inl (List.mem_of_getElem? (i := 0) rfl))).wr W12 (Or.inl (List.mem_of_getElem? (i := 0) rfl)))
        exact Gl.outI X12 hx hk Bd.returns (hb hby d10_25) (Eq.mpr (congrArg (fun hh => Q104 Z a0 a2 ka kb x0 x1 x2 x3 G1 w_sf h0 n0 _ hh _) e12) (show Q104 Z a0 a2 ka kb x0 x1 x2 x3 G1 w_sf h0 n0 _ h12 _ from ⟨(2 : Int32), rfl, N12, K17, (Or.inr (Or.inr (Or.inr (Or.inl ⟨rfl, hf16⟩))))⟩)) (by decide) (by decide)
      · refine gb (mkF m 26 #[vr a0, vi 2, vr a2, vi 2, vi 4, vi 2, vi x2] []) (fun _ k => XS.icmpYes X12.here hx rfl (pc0 := 20) (pc' := 26) rfl (hb hby d10_20) rfl (flt hf16).2.2.2 (by decide) (by decide) k) ?_
        refine gb (mkF m 27 #[vr a0, vi 2, vr a2, vi 2, vi 4, vi 2, vi x2] [(.ref a2)]) (fun _ k => XS.aloadN X12.here hx rfl (hb hby d10_26) rfl rfl k) ?_
        refine gb (mkF m 28 #[vr a0, vi 2, vr a2, vi 2, vi 4, vi 2, vi x2] [(.int 2), (.ref a2)]) (fun _ k => XS.iloadN X12.here hx rfl (hb hby d10_27) rfl k) ?_
        refine gb (mkF m 30 #[vr a0, vi 2, vr a2, vi 2, vi 4, vi 2, vi x2] [(.int x2), (.int 2), (.ref a2)]) (fun _ k => XS.iload X12.here hx rfl (hb hby d10_28) rfl k) ?_
        refine gb (mkF m 31 #[vr a0, vi 2, vr a2, vi 2, vi 4, vi 2, vi x2] [(.int (x2.toInt8.toInt32)), (.int 2), (.ref a2)]) (fun _ k => XS.i2b X12.here hx rfl (hb hby d10_30) rfl k) ?_
        obtain ⟨cl18, Ar18, qa18, Sa18, Na18, Ha18, Ga18⟩ := id V12
        have hin19 : ¬ ((2 : Int32) < 0 ∨ cl18.slots.size ≤ ((2 : Int32)).toNatClampNeg) := inb_of Sa18 ⟨by decide, by decide⟩
        obtain ⟨T19, h19, X19, e19, W19, st19⟩ := stB X12 hx hZ e12 Ar18 (j := (2 : Int32)) hin19 (g := (mkF m 31 #[vr a0, vi 2, vr a2, vi 2, vi 4, vi 2, vi x2] [(.int (x2.toInt8.toInt32)), (.int 2), (.ref a2)])) rfl rfl (hb hby d10_31)
        have V19 : Arv Z h19 a2 kb .byte (4 : Int32) [(.int ((x0.toInt8.toInt32).toInt8.toInt32)), (.int ((x1.toInt8.toInt32).toInt8.toInt32)), (.int ((x2.toInt8.toInt32).toInt8.toInt32)), (.int 0)] (.int 0) := Arv.set Ar18 qa18 Sa18 Na18 Ha18 Ga18 (fits_nar_byte _) W19 2 (by decide) (Nat.le_of_ble_eq_true rfl)
        have N19 := Fr.snoc X19 N12 gp_a2
        refine gb (mkF m 32 #[vr a0, vi 2, vr a2, vi 2, vi 4, vi 2, vi x2] []) st19 ?_
        refine gb (mkF m 35 #[vr a0, vi 3, vr a2, vi 2, vi 4, vi 2, vi x2] []) (fun _ k => XS.iinc X19.here hx rfl (hb hby d10_32) rfl (l' := #[vr a0, vi 3, vr a2, vi 2, vi 4, vi 2, vi x2]) rfl k) ?_
        refine gb (mkF m 38 #[vr a0, vi 3, vr a2, vi 3, vi 4, vi 2, vi x2] []) (fun _ k => XS.iinc X19.here hx rfl (hb hby d10_35) rfl (l' := #[vr a0, vi 3, vr a2, vi 3, vi 4, vi 2, vi x2]) rfl k) ?_
        refine gb (mkF m 41 #[vr a0, vi 3, vr a2, vi 3, vi 4, vi 3, vi x2] []) (fun _ k => XS.iinc X19.here hx rfl (hb hby d10_38) rfl (l' := #[vr a0, vi 3, vr a2, vi 3, vi 4, vi 3, vi x2]) rfl k) ?_
        refine gb (mkF m 3 #[vr a0, vi 3, vr a2, vi 3, vi 4, vi 3, vi x2] []) (fun _ k => XS.goto X19.here hx rfl (pc0 := 41) (pc' := 3) rfl (hb hby d10_41) (by decide) (by decide) k) ?_
        refine gb (mkF m 5 #[vr a0, vi 3, vr a2, vi 3, vi 4, vi 3, vi x2] [(.int 3)]) (fun _ k => XS.iload X19.here hx rfl (hb hby d10_3) rfl k) ?_
        refine gb (mkF m 7 #[vr a0, vi 3, vr a2, vi 3, vi 4, vi 3, vi x2] [(.int 4), (.int 3)]) (fun _ k => XS.iload X19.here hx rfl (hb hby d10_5) rfl k) ?_
        refine gb (mkF m 10 #[vr a0, vi 3, vr a2, vi 3, vi 4, vi 3, vi x2] []) (fun _ k => XS.icmpNo X19.here hx rfl (hb hby d10_7) rfl (tlt (by decide : (3 : Int32) < (4 : Int32))).2.1 k) ?_
        refine gb (mkF m 11 #[vr a0, vi 3, vr a2, vi 3, vi 4, vi 3, vi x2] [(.ref a0)]) (fun _ k => XS.aloadN X19.here hx rfl (hb hby d10_10) rfl rfl k) ?_
        refine gb (mkF m 12 #[vr a0, vi 3, vr a2, vi 3, vi 4, vi 3, vi x2] [(.int 3), (.ref a0)]) (fun _ k => XS.iloadN X19.here hx rfl (hb hby d10_11) rfl k) ?_
        have f20 := (Arv.other f13 W19 np_a0_a2)
        obtain ⟨cl21, Ar21, qa21, Sa21, Na21, Ha21, Ga21⟩ := id f20
        have hin22 : ¬ ((3 : Int32) < 0 ∨ cl21.slots.size ≤ ((3 : Int32)).toNatClampNeg) := inb_of Sa21 ⟨by decide, by decide⟩
        refine gb (mkF m 13 #[vr a0, vi 3, vr a2, vi 3, vi 4, vi 3, vi x2] [(.int x3)]) (X19.caload hx (j := (3 : Int32)) (v := (.int x3)) (by rw [e19]; exact Ar21.1) (State.isArrayOf_alike hZ.alike Ar21.2.1) Ar21.2.2 hin22 (Has.at Ha21 hin22 (congrArg (fun k => List.getD ([(.int x0), (.int x1), (.int x2), (.int x3)] : List Value) k (.int 0)) (by decide : ((3 : Int32)).toNatClampNeg = 3))) (g := (mkF m 12 #[vr a0, vi 3, vr a2, vi 3, vi 4, vi 3, vi x2] [(.int 3), (.ref a0)])) rfl rfl (hb hby d10_12)) ?_
        refine gb (mkF m 15 #[vr a0, vi 3, vr a2, vi 3, vi 4, vi 3, vi x3] []) (fun _ k => XS.istore X19.here hx rfl (hb hby d10_13) rfl (l' := #[vr a0, vi 3, vr a2, vi 3, vi 4, vi 3, vi x3]) rfl k) ?_
        refine gb (mkF m 17 #[vr a0, vi 3, vr a2, vi 3, vi 4, vi 3, vi x3] [(.int x3)]) (fun _ k => XS.iload X19.here hx rfl (hb hby d10_15) rfl k) ?_
        refine gb (mkF m 20 #[vr a0, vi 3, vr a2, vi 3, vi 4, vi 3, vi x3] [(.int 255), (.int x3)]) (fun _ k => XS.sipush X19.here hx rfl (hb hby d10_17) k) ?_
        by_cases hf23 : (255 : Int32) < x3
        · refine gb (mkF m 23 #[vr a0, vi 3, vr a2, vi 3, vi 4, vi 3, vi x3] []) (fun _ k => XS.icmpNo X19.here hx rfl (hb hby d10_20) rfl (tlt hf23).2.2.2 k) ?_
          refine gb (mkF m 25 #[vr a0, vi 3, vr a2, vi 3, vi 4, vi 3, vi x3] [(.int 3)]) (fun _ k => XS.iload X19.here hx rfl (hb hby d10_23) rfl k) ?_
          have K24 := ((((Keep.refl h0 [a2]).wr W5 (Or.inl (List.mem_of_getElem? (i := 0) rfl))).wr W12 (Or.inl (List.mem_of_getElem? (i := 0) rfl))).wr W19 (Or.inl (List.mem_of_getElem? (i := 0) rfl)))
          exact Gl.outI X19 hx hk Bd.returns (hb hby d10_25) (Eq.mpr (congrArg (fun hh => Q104 Z a0 a2 ka kb x0 x1 x2 x3 G1 w_sf h0 n0 _ hh _) e19) (show Q104 Z a0 a2 ka kb x0 x1 x2 x3 G1 w_sf h0 n0 _ h19 _ from ⟨(3 : Int32), rfl, N19, K24, (Or.inr (Or.inr (Or.inr (Or.inr (⟨rfl, hf23⟩)))))⟩)) (by decide) (by decide)
        · refine gb (mkF m 26 #[vr a0, vi 3, vr a2, vi 3, vi 4, vi 3, vi x3] []) (fun _ k => XS.icmpYes X19.here hx rfl (pc0 := 20) (pc' := 26) rfl (hb hby d10_20) rfl (flt hf23).2.2.2 (by decide) (by decide) k) ?_
          refine gb (mkF m 27 #[vr a0, vi 3, vr a2, vi 3, vi 4, vi 3, vi x3] [(.ref a2)]) (fun _ k => XS.aloadN X19.here hx rfl (hb hby d10_26) rfl rfl k) ?_
          refine gb (mkF m 28 #[vr a0, vi 3, vr a2, vi 3, vi 4, vi 3, vi x3] [(.int 3), (.ref a2)]) (fun _ k => XS.iloadN X19.here hx rfl (hb hby d10_27) rfl k) ?_
          refine gb (mkF m 30 #[vr a0, vi 3, vr a2, vi 3, vi 4, vi 3, vi x3] [(.int x3), (.int 3), (.ref a2)]) (fun _ k => XS.iload X19.here hx rfl (hb hby d10_28) rfl k) ?_
          refine gb (mkF m 31 #[vr a0, vi 3, vr a2, vi 3, vi 4, vi 3, vi x3] [(.int (x3.toInt8.toInt32)), (.int 3), (.ref a2)]) (fun _ k => XS.i2b X19.here hx rfl (hb hby d10_30) rfl k) ?_
          obtain ⟨cl25, Ar25, qa25, Sa25, Na25, Ha25, Ga25⟩ := id V19
          have hin26 : ¬ ((3 : Int32) < 0 ∨ cl25.slots.size ≤ ((3 : Int32)).toNatClampNeg) := inb_of Sa25 ⟨by decide, by decide⟩
          obtain ⟨T26, h26, X26, e26, W26, st26⟩ := stB X19 hx hZ e19 Ar25 (j := (3 : Int32)) hin26 (g := (mkF m 31 #[vr a0, vi 3, vr a2, vi 3, vi 4, vi 3, vi x3] [(.int (x3.toInt8.toInt32)), (.int 3), (.ref a2)])) rfl rfl (hb hby d10_31)
          have V26 : Arv Z h26 a2 kb .byte (4 : Int32) [(.int ((x0.toInt8.toInt32).toInt8.toInt32)), (.int ((x1.toInt8.toInt32).toInt8.toInt32)), (.int ((x2.toInt8.toInt32).toInt8.toInt32)), (.int ((x3.toInt8.toInt32).toInt8.toInt32))] (.int 0) := Arv.set Ar25 qa25 Sa25 Na25 Ha25 Ga25 (fits_nar_byte _) W26 3 (by decide) (Nat.le_of_ble_eq_true rfl)
          have N26 := Fr.snoc X26 N19 gp_a2
          refine gb (mkF m 32 #[vr a0, vi 3, vr a2, vi 3, vi 4, vi 3, vi x3] []) st26 ?_
          refine gb (mkF m 35 #[vr a0, vi 4, vr a2, vi 3, vi 4, vi 3, vi x3] []) (fun _ k => XS.iinc X26.here hx rfl (hb hby d10_32) rfl (l' := #[vr a0, vi 4, vr a2, vi 3, vi 4, vi 3, vi x3]) rfl k) ?_
          refine gb (mkF m 38 #[vr a0, vi 4, vr a2, vi 4, vi 4, vi 3, vi x3] []) (fun _ k => XS.iinc X26.here hx rfl (hb hby d10_35) rfl (l' := #[vr a0, vi 4, vr a2, vi 4, vi 4, vi 3, vi x3]) rfl k) ?_
          refine gb (mkF m 41 #[vr a0, vi 4, vr a2, vi 4, vi 4, vi 4, vi x3] []) (fun _ k => XS.iinc X26.here hx rfl (hb hby d10_38) rfl (l' := #[vr a0, vi 4, vr a2, vi 4, vi 4, vi 4, vi x3]) rfl k) ?_
          refine gb (mkF m 3 #[vr a0, vi 4, vr a2, vi 4, vi 4, vi 4, vi x3] []) (fun _ k => XS.goto X26.here hx rfl (pc0 := 41) (pc' := 3) rfl (hb hby d10_41) (by decide) (by decide) k) ?_
          refine gb (mkF m 5 #[vr a0, vi 4, vr a2, vi 4, vi 4, vi 4, vi x3] [(.int 4)]) (fun _ k => XS.iload X26.here hx rfl (hb hby d10_3) rfl k) ?_
          refine gb (mkF m 7 #[vr a0, vi 4, vr a2, vi 4, vi 4, vi 4, vi x3] [(.int 4), (.int 4)]) (fun _ k => XS.iload X26.here hx rfl (hb hby d10_5) rfl k) ?_
          refine gb (mkF m 44 #[vr a0, vi 4, vr a2, vi 4, vi 4, vi 4, vi x3] []) (fun _ k => XS.icmpYes X26.here hx rfl (pc0 := 7) (pc' := 44) rfl (hb hby d10_7) rfl (flt (by decide : ¬ ((4 : Int32) < (4 : Int32)))).2.1 (by decide) (by decide) k) ?_
          refine gb (mkF m 46 #[vr a0, vi 4, vr a2, vi 4, vi 4, vi 4, vi x3] [(.int 4)]) (fun _ k => XS.iload X26.here hx rfl (hb hby d10_44) rfl k) ?_
          have K27 := (((((Keep.refl h0 [a2]).wr W5 (Or.inl (List.mem_of_getElem? (i := 0) rfl))).wr W12 (Or.inl (List.mem_of_getElem? (i := 0) rfl))).wr W19 (Or.inl (List.mem_of_getElem? (i := 0) rfl))).wr W26 (Or.inl (List.mem_of_getElem? (i := 0) rfl)))
          exact Gl.outI X26 hx hk Bd.returns (hb hby d10_46) (Eq.mpr (congrArg (fun hh => Q104 Z a0 a2 ka kb x0 x1 x2 x3 G1 w_sf h0 n0 _ hh _) e26) (show Q104 Z a0 a2 ka kb x0 x1 x2 x3 G1 w_sf h0 n0 _ h26 _ from ⟨(4 : Int32), rfl, N26, K27, (Or.inl ⟨rfl, (fun q => Or.elim q hf3 (fun q => Or.elim q hf9 (fun q => Or.elim q hf16 hf23))), V26⟩)⟩)) (by decide) (by decide)
theorem d20_0 : decode jdk_52_method_4_code 0 = .ok (.getstatic 44, 3) := by decide +kernel
theorem d20_3 : decode jdk_52_method_4_code 3 = .ok (.ifCond .ne 25, 3) := by decide +kernel
theorem d20_28 : decode jdk_52_method_4_code 28 = .ok (.iload_n 1, 1) := by decide +kernel
theorem d20_29 : decode jdk_52_method_4_code 29 = .ok (.iconst 1, 1) := by decide +kernel
theorem d20_30 : decode jdk_52_method_4_code 30 = .ok (.ishl, 1) := by decide +kernel
theorem d20_31 : decode jdk_52_method_4_code 31 = .ok (.istore_n 1, 1) := by decide +kernel
theorem d20_32 : decode jdk_52_method_4_code 32 = .ok (.aload_n 0, 1) := by decide +kernel
theorem d20_33 : decode jdk_52_method_4_code 33 = .ok (.iload_n 1, 1) := by decide +kernel
theorem d20_34 : decode jdk_52_method_4_code 34 = .ok (.iinc 1 1, 3) := by decide +kernel
theorem d20_37 : decode jdk_52_method_4_code 37 = .ok (.iload_n 2, 1) := by decide +kernel
theorem d20_38 : decode jdk_52_method_4_code 38 = .ok (.getstatic 59, 3) := by decide +kernel
theorem d20_41 : decode jdk_52_method_4_code 41 = .ok (.ishr, 1) := by decide +kernel
theorem d20_42 : decode jdk_52_method_4_code 42 = .ok (.i2b, 1) := by decide +kernel
theorem d20_43 : decode jdk_52_method_4_code 43 = .ok (.bastore, 1) := by decide +kernel
theorem d20_44 : decode jdk_52_method_4_code 44 = .ok (.aload_n 0, 1) := by decide +kernel
theorem d20_45 : decode jdk_52_method_4_code 45 = .ok (.iload_n 1, 1) := by decide +kernel
theorem d20_46 : decode jdk_52_method_4_code 46 = .ok (.iload_n 2, 1) := by decide +kernel
theorem d20_47 : decode jdk_52_method_4_code 47 = .ok (.getstatic 63, 3) := by decide +kernel
theorem d20_50 : decode jdk_52_method_4_code 50 = .ok (.ishr, 1) := by decide +kernel
theorem d20_51 : decode jdk_52_method_4_code 51 = .ok (.i2b, 1) := by decide +kernel
theorem d20_52 : decode jdk_52_method_4_code 52 = .ok (.bastore, 1) := by decide +kernel
theorem d20_53 : decode jdk_52_method_4_code 53 = .ok (.return_, 1) := by decide +kernel
theorem ef20 (m : MethodId) (x0 : Addr) (x1 : Int32) (x2 : Int32) : entryFrame m #[(.ref x0), (.int x1), (.int x2)] 3 = mkF m 0 #[.val (.ref x0), .val (.int x1), .val (.int x2)] [] := by first | (simp [entryFrame, mkF, argsToLocals, Value.category]; done) | rfl
def Q20 (Z : State) (a0 : Addr) (p1 : Int32) (xx : Int32) (kb : ClassId) (vv : List Value) (zn : Int32) (G1 : Int32) (w_sf : Value) (h0 : Heap) (n0 : Nat) (v : Option Value) (h : Heap) (L : List Loc) : Prop := v = none ∧ Fr n0 L ∧ Keep h0 h [a0] ∧ Arv Z h a0 kb .byte zn ((vv.set ((p1 <<< ((1 : Int32) &&& 31))).toNatClampNeg (.int (bA xx))).set (((p1 <<< ((1 : Int32) &&& 31)) + (1 : Int32))).toNatClampNeg (.int (bB xx))) (.int 0)
theorem rm20 (l : Launch) (Z : State) (a0' : Array Value) (hw : ∀ d ∈ tables_1, d.before a0' Z = true) (ws : List Jvm.Cond) (a0 : Addr) (p1 : Int32) (xx : Int32) (kb : ClassId) (vv : List Value) (zn : Int32) (G1 : Int32) (w_sf : Value) (h0 : Heap) (n0 : Nat) (O : Old Z n0 h0) (W : Wd Z G1 w_sf) (pf0 : Arv Z h0 a0 kb .byte zn vv (.int 0)) (gp_a0 : n0 ≤ a0) (hb1 : ¬ (p1 <<< ((1 : Int32) &&& 31)) < 0 ∧ (p1 <<< ((1 : Int32) &&& 31)) < zn) (hb2 : ¬ ((p1 <<< ((1 : Int32) &&& 31)) + (1 : Int32)) < 0 ∧ ((p1 <<< ((1 : Int32) &&& 31)) + (1 : Int32)) < zn) (hl1 : (p1 <<< ((1 : Int32) &&& 31)).toNatClampNeg < vv.length) (hl2 : ((p1 <<< ((1 : Int32) &&& 31)) + (1 : Int32)).toNatClampNeg < vv.length) :
    MetFree l mq12 (head1 (Jvm.Cond.code mq12 jdk_52_method_4_code 3 none :: ws) ({ frames := 0, cells := 0, slots := 0, locals := 0 } : Room)) (fun a U => a = #[(.ref a0), (.int p1), (.int xx)] ∧ Z.Warmed39 U.vm ∧ U.heap = h0) (fun _ _ _ _ _ => True) (fun _ U o U' => ∃ v L, o = .returned v ∧ Q20 Z a0 p1 xx kb vv zn G1 w_sf h0 n0 v U'.heap L ∧ FrameEnd U o U' L ({ frames := 0, cells := 0, slots := 0, locals := 0 } : Room).cells ({ frames := 0, cells := 0, slots := 0, locals := 0 } : Room).slots) := by
  refine MetFree.of_bodySF (plainFor_of_name pn3) hisR ?_
  intro p e s m args below meth c s₁ Bd hml0 hP hK
  obtain ⟨rfl, hZ, hh⟩ := hP
  have hx := Bd.exec
  have hby := Bd.bytes
  have hml : c.maxLocals = 3 := hml0
  have hown : s.vm.findClass "java/lang/StringUTF16" = some m.cls := findClass_of_methodNamed Bd.named
  have hnm := (name_of_methodNamed Bd.named Bd.method).1
  have hk := Bd.notSynchronized
  have X0 : Stand p l e ({ frames := 0, cells := 0, slots := 0, locals := 0 } : Room) s m #[(.ref a0), (.int p1), (.int xx)] below meth c s₁ [] 0 0 := Stand.of_body Bd
  have hh2 := hh
  have e0 : s₁.heap = h0 := by rw [← hh, Bd.state]; rfl
  have N0 := Fr.nil n0
  show Gl p e below (Pos 0 0 (Q20 Z a0 p1 xx kb vv zn G1 w_sf h0 n0) s) s₁ _
  refine Gl.cast (ef20 m a0 p1 xx) ?_
  obtain ⟨T1, X1, e1, st1⟩ := getS2 X0 hx hZ hown (host := "") (Or.inl (hW hw 90 rfl)) Via.refl e0 (Sta.ext O.2 W.2.2.2.2.1) (g := (mkF m 0 #[vr a0, vi p1, vi xx] [])) rfl (hb hby d20_0)
  refine gb (mkF m 3 #[vr a0, vi p1, vi xx] [(.int 1)]) st1 ?_
  refine gb (mkF m 28 #[vr a0, vi p1, vi xx] []) (fun _ k => XS.ifYes X1.here hx rfl (pc0 := 3) (pc' := 28) rfl (hb hby d20_3) rfl ((if0 _ _).trans (feq (by decide : ¬ ((1 : Int32) = (0 : Int32)))).2) (by decide) (by decide) k) ?_
  refine gb (mkF m 29 #[vr a0, vi p1, vi xx] [(.int p1)]) (fun _ k => XS.iloadN X1.here hx rfl (hb hby d20_28) rfl k) ?_
  refine gb (mkF m 30 #[vr a0, vi p1, vi xx] [(.int 1), (.int p1)]) (fun _ k => XS.iconst X1.here hx rfl (hb hby d20_29) k) ?_
  refine gb (mkF m 31 #[vr a0, vi p1, vi xx] [(.int (p1 <<< ((1 : Int32) &&& 31)))]) (fun _ k => XS.ishl X1.here hx rfl (hb hby d20_30) rfl k) ?_
  refine gb (mkF m 32 #[vr a0, vi (p1 <<< ((1 : Int32) &&& 31)), vi xx] []) (fun _ k => XS.istoreN X1.here hx rfl (hb hby d20_31) rfl (l' := #[vr a0, vi (p1 <<< ((1 : Int32) &&& 31)), vi xx]) rfl k) ?_
  refine gb (mkF m 33 #[vr a0, vi (p1 <<< ((1 : Int32) &&& 31)), vi xx] [(.ref a0)]) (fun _ k => XS.aloadN X1.here hx rfl (hb hby d20_32) rfl rfl k) ?_
  refine gb (mkF m 34 #[vr a0, vi (p1 <<< ((1 : Int32) &&& 31)), vi xx] [(.int (p1 <<< ((1 : Int32) &&& 31))), (.ref a0)]) (fun _ k => XS.iloadN X1.here hx rfl (hb hby d20_33) rfl k) ?_
  refine gb (mkF m 37 #[vr a0, vi ((p1 <<< ((1 : Int32) &&& 31)) + (1 : Int32)), vi xx] [(.int (p1 <<< ((1 : Int32) &&& 31))), (.ref a0)]) (fun _ k => XS.iinc X1.here hx rfl (hb hby d20_34) rfl (l' := #[vr a0, vi ((p1 <<< ((1 : Int32) &&& 31)) + (1 : Int32)), vi xx]) rfl k) ?_
  refine gb (mkF m 38 #[vr a0, vi ((p1 <<< ((1 : Int32) &&& 31)) + (1 : Int32)), vi xx] [(.int xx), (.int (p1 <<< ((1 : Int32) &&& 31))), (.ref a0)]) (fun _ k => XS.iloadN X1.here hx rfl (hb hby d20_37) rfl k) ?_
  obtain ⟨T2, X2, e2, st2⟩ := getS2 X1 hx hZ hown (host := "") (Or.inl (hW hw 91 rfl)) Via.refl e1 (Sta.ext O.2 W.2.2.2.2.2.1) (g := (mkF m 38 #[vr a0, vi ((p1 <<< ((1 : Int32) &&& 31)) + (1 : Int32)), vi xx] [(.int xx), (.int (p1 <<< ((1 : Int32) &&& 31))), (.ref a0)])) rfl (hb hby d20_38)
  refine gb (mkF m 41 #[vr a0, vi ((p1 <<< ((1 : Int32) &&& 31)) + (1 : Int32)), vi xx] [(.int 0), (.int xx), (.int (p1 <<< ((1 : Int32) &&& 31))), (.ref a0)]) st2 ?_
  refine gb (mkF m 42 #[vr a0, vi ((p1 <<< ((1 : Int32) &&& 31)) + (1 : Int32)), vi xx] [(.int (xx >>> ((0 : Int32) &&& 31))), (.int (p1 <<< ((1 : Int32) &&& 31))), (.ref a0)]) (fun _ k => XS.ishr X2.here hx rfl (hb hby d20_41) rfl k) ?_
  refine gb (mkF m 43 #[vr a0, vi ((p1 <<< ((1 : Int32) &&& 31)) + (1 : Int32)), vi xx] [(.int ((xx >>> ((0 : Int32) &&& 31)).toInt8.toInt32)), (.int (p1 <<< ((1 : Int32) &&& 31))), (.ref a0)]) (fun _ k => XS.i2b X2.here hx rfl (hb hby d20_42) rfl k) ?_
  obtain ⟨cl3, Ar3, qa3, Sa3, Na3, Ha3, Ga3⟩ := id pf0
  have hin4 : ¬ ((p1 <<< ((1 : Int32) &&& 31)) < 0 ∨ cl3.slots.size ≤ ((p1 <<< ((1 : Int32) &&& 31))).toNatClampNeg) := inb_of Sa3 hb1
  obtain ⟨T4, h4, X4, e4, W4, st4⟩ := stB X2 hx hZ e2 Ar3 (j := (p1 <<< ((1 : Int32) &&& 31))) hin4 (g := (mkF m 43 #[vr a0, vi ((p1 <<< ((1 : Int32) &&& 31)) + (1 : Int32)), vi xx] [(.int ((xx >>> ((0 : Int32) &&& 31)).toInt8.toInt32)), (.int (p1 <<< ((1 : Int32) &&& 31))), (.ref a0)])) rfl rfl (hb hby d20_43)
  have V4 : Arv Z h4 a0 kb .byte zn (vv.set ((p1 <<< ((1 : Int32) &&& 31))).toNatClampNeg (.int (((xx >>> ((0 : Int32) &&& 31)).toInt8.toInt32).toInt8.toInt32))) (.int 0) := Arv.set Ar3 qa3 Sa3 Na3 Ha3 Ga3 (fits_nar_byte _) W4 _ rfl hl1
  have N4 := Fr.snoc X4 N0 gp_a0
  refine gb (mkF m 44 #[vr a0, vi ((p1 <<< ((1 : Int32) &&& 31)) + (1 : Int32)), vi xx] []) st4 ?_
  refine gb (mkF m 45 #[vr a0, vi ((p1 <<< ((1 : Int32) &&& 31)) + (1 : Int32)), vi xx] [(.ref a0)]) (fun _ k => XS.aloadN X4.here hx rfl (hb hby d20_44) rfl rfl k) ?_
  refine gb (mkF m 46 #[vr a0, vi ((p1 <<< ((1 : Int32) &&& 31)) + (1 : Int32)), vi xx] [(.int ((p1 <<< ((1 : Int32) &&& 31)) + (1 : Int32))), (.ref a0)]) (fun _ k => XS.iloadN X4.here hx rfl (hb hby d20_45) rfl k) ?_
  refine gb (mkF m 47 #[vr a0, vi ((p1 <<< ((1 : Int32) &&& 31)) + (1 : Int32)), vi xx] [(.int xx), (.int ((p1 <<< ((1 : Int32) &&& 31)) + (1 : Int32))), (.ref a0)]) (fun _ k => XS.iloadN X4.here hx rfl (hb hby d20_46) rfl k) ?_
  have O6 := (O.wr W4 gp_a0)
  obtain ⟨T5, X5, e5, st5⟩ := getS2 X4 hx hZ hown (host := "") (Or.inl (hW hw 92 rfl)) Via.refl e4 (Sta.ext O6.2 W.2.2.2.2.2.2) (g := (mkF m 47 #[vr a0, vi ((p1 <<< ((1 : Int32) &&& 31)) + (1 : Int32)), vi xx] [(.int xx), (.int ((p1 <<< ((1 : Int32) &&& 31)) + (1 : Int32))), (.ref a0)])) rfl (hb hby d20_47)
  refine gb (mkF m 50 #[vr a0, vi ((p1 <<< ((1 : Int32) &&& 31)) + (1 : Int32)), vi xx] [(.int 8), (.int xx), (.int ((p1 <<< ((1 : Int32) &&& 31)) + (1 : Int32))), (.ref a0)]) st5 ?_
  refine gb (mkF m 51 #[vr a0, vi ((p1 <<< ((1 : Int32) &&& 31)) + (1 : Int32)), vi xx] [(.int (xx >>> ((8 : Int32) &&& 31))), (.int ((p1 <<< ((1 : Int32) &&& 31)) + (1 : Int32))), (.ref a0)]) (fun _ k => XS.ishr X5.here hx rfl (hb hby d20_50) rfl k) ?_
  refine gb (mkF m 52 #[vr a0, vi ((p1 <<< ((1 : Int32) &&& 31)) + (1 : Int32)), vi xx] [(.int ((xx >>> ((8 : Int32) &&& 31)).toInt8.toInt32)), (.int ((p1 <<< ((1 : Int32) &&& 31)) + (1 : Int32))), (.ref a0)]) (fun _ k => XS.i2b X5.here hx rfl (hb hby d20_51) rfl k) ?_
  obtain ⟨cl7, Ar7, qa7, Sa7, Na7, Ha7, Ga7⟩ := id V4
  have hin8 : ¬ (((p1 <<< ((1 : Int32) &&& 31)) + (1 : Int32)) < 0 ∨ cl7.slots.size ≤ (((p1 <<< ((1 : Int32) &&& 31)) + (1 : Int32))).toNatClampNeg) := inb_of Sa7 hb2
  obtain ⟨T8, h8, X8, e8, W8, st8⟩ := stB X5 hx hZ e5 Ar7 (j := ((p1 <<< ((1 : Int32) &&& 31)) + (1 : Int32))) hin8 (g := (mkF m 52 #[vr a0, vi ((p1 <<< ((1 : Int32) &&& 31)) + (1 : Int32)), vi xx] [(.int ((xx >>> ((8 : Int32) &&& 31)).toInt8.toInt32)), (.int ((p1 <<< ((1 : Int32) &&& 31)) + (1 : Int32))), (.ref a0)])) rfl rfl (hb hby d20_52)
  have V8 : Arv Z h8 a0 kb .byte zn ((vv.set ((p1 <<< ((1 : Int32) &&& 31))).toNatClampNeg (.int (((xx >>> ((0 : Int32) &&& 31)).toInt8.toInt32).toInt8.toInt32))).set (((p1 <<< ((1 : Int32) &&& 31)) + (1 : Int32))).toNatClampNeg (.int (((xx >>> ((8 : Int32) &&& 31)).toInt8.toInt32).toInt8.toInt32))) (.int 0) := Arv.set Ar7 qa7 Sa7 Na7 Ha7 Ga7 (fits_nar_byte _) W8 _ rfl (by rw [List.length_set]; exact hl2)
  have N8 := Fr.snoc X8 N4 gp_a0
  refine gb (mkF m 53 #[vr a0, vi ((p1 <<< ((1 : Int32) &&& 31)) + (1 : Int32)), vi xx] []) st8 ?_
  have K9 := (((Keep.refl h0 [a0]).wr W4 (Or.inl (List.mem_of_getElem? (i := 0) rfl))).wr W8 (Or.inl (List.mem_of_getElem? (i := 0) rfl)))
  exact Gl.outV X8 hx hk Bd.returns (hb hby d20_53) (Eq.mpr (congrArg (fun hh => Q20 Z a0 p1 xx kb vv zn G1 w_sf h0 n0 _ hh _) e8) (show Q20 Z a0 p1 xx kb vv zn G1 w_sf h0 n0 _ h8 _ from ⟨rfl, N8, K9, V8⟩)) (by decide) (by decide)
theorem d19_0 : decode jdk_52_method_3_code 0 = .ok (.iload_n 0, 1) := by decide +kernel
theorem d19_1 : decode jdk_52_method_3_code 1 = .ok (.ifCond .ge 11, 3) := by decide +kernel
theorem d19_12 : decode jdk_52_method_3_code 12 = .ok (.iload_n 0, 1) := by decide +kernel
theorem d19_13 : decode jdk_52_method_3_code 13 = .ok (.ldc 20, 2) := by decide +kernel
theorem d19_15 : decode jdk_52_method_3_code 15 = .ok (.if_icmp .lt 40, 3) := by decide +kernel
theorem d19_55 : decode jdk_52_method_3_code 55 = .ok (.iload_n 0, 1) := by decide +kernel
theorem d19_56 : decode jdk_52_method_3_code 56 = .ok (.iconst 1, 1) := by decide +kernel
theorem d19_57 : decode jdk_52_method_3_code 57 = .ok (.ishl, 1) := by decide +kernel
theorem d19_58 : decode jdk_52_method_3_code 58 = .ok (.ireturn, 1) := by decide +kernel
theorem ef191 (m : MethodId) (x0 : Int32) : entryFrame m #[(.int x0)] 1 = mkF m 0 #[.val (.int x0)] [] := by first | (simp [entryFrame, mkF, argsToLocals, Value.category]; done) | rfl
def Q191 (Z : State) (G1 : Int32) (w_sf : Value) (h0 : Heap) (n0 : Nat) (v : Option Value) (h : Heap) (L : List Loc) : Prop := v = some (.int 2) ∧ Fr n0 L ∧ h = h0
theorem rm191 (l : Launch) (Z : State) (a0' : Array Value) (hw : ∀ d ∈ tables_1, d.before a0' Z = true) (ws : List Jvm.Cond) (G1 : Int32) (w_sf : Value) (h0 : Heap) (n0 : Nat) (O : Old Z n0 h0) (W : Wd Z G1 w_sf) :
    MetFree l mq13 (head1 (Jvm.Cond.code mq13 jdk_52_method_3_code 1 (some .int) :: ws) ({ frames := 0, cells := 0, slots := 0, locals := 0 } : Room)) (fun a U => a = #[(.int 1)] ∧ Z.Warmed39 U.vm ∧ U.heap = h0) (fun _ _ _ _ _ => True) (fun _ U o U' => ∃ v L, o = .returned v ∧ Q191 Z  G1 w_sf h0 n0 v U'.heap L ∧ FrameEnd U o U' L ({ frames := 0, cells := 0, slots := 0, locals := 0 } : Room).cells ({ frames := 0, cells := 0, slots := 0, locals := 0 } : Room).slots) := by
  refine MetFree.of_bodySF (plainFor_of_name pn3) hisR ?_
  intro p e s m args below meth c s₁ Bd hml0 hP hK
  obtain ⟨rfl, hZ, hh⟩ := hP
  have hx := Bd.exec
  have hby := Bd.bytes
  have hml : c.maxLocals = 1 := hml0
  have hown : s.vm.findClass "java/lang/StringUTF16" = some m.cls := findClass_of_methodNamed Bd.named
  have hnm := (name_of_methodNamed Bd.named Bd.method).1
  have hk := Bd.notSynchronized
  have X0 : Stand p l e ({ frames := 0, cells := 0, slots := 0, locals := 0 } : Room) s m #[(.int 1)] below meth c s₁ [] 0 0 := Stand.of_body Bd
  have hh2 := hh
  have e0 : s₁.heap = h0 := by rw [← hh, Bd.state]; rfl
  have N0 := Fr.nil n0
  show Gl p e below (Pos 0 0 (Q191 Z  G1 w_sf h0 n0) s) s₁ _
  refine Gl.cast (ef191 m (1 : Int32)) ?_
  refine gb (mkF m 1 #[vi 1] [(.int 1)]) (fun _ k => XS.iloadN X0.here hx rfl (hb hby d19_0) rfl k) ?_
  refine gb (mkF m 12 #[vi 1] []) (fun _ k => XS.ifYes X0.here hx rfl (pc0 := 1) (pc' := 12) rfl (hb hby d19_1) rfl ((if0 _ _).trans (flt (by decide : ¬ ((1 : Int32) < (0 : Int32)))).2.1) (by decide) (by decide) k) ?_
  refine gb (mkF m 13 #[vi 1] [(.int 1)]) (fun _ k => XS.iloadN X0.here hx rfl (hb hby d19_12) rfl k) ?_
  refine gb (mkF m 15 #[vi 1] [(.int 1073741823), (.int 1)]) (X0.ldcInt hx hown (mvT hZ (hW hw 86 rfl)) (g := (mkF m 13 #[vi 1] [(.int 1)])) rfl (hb hby d19_13)) ?_
  refine gb (mkF m 55 #[vi 1] []) (fun _ k => XS.icmpYes X0.here hx rfl (pc0 := 15) (pc' := 55) rfl (hb hby d19_15) rfl (tlt (by decide : (1 : Int32) < (1073741823 : Int32))).1 (by decide) (by decide) k) ?_
  refine gb (mkF m 56 #[vi 1] [(.int 1)]) (fun _ k => XS.iloadN X0.here hx rfl (hb hby d19_55) rfl k) ?_
  refine gb (mkF m 57 #[vi 1] [(.int 1), (.int 1)]) (fun _ k => XS.iconst X0.here hx rfl (hb hby d19_56) k) ?_
  refine gb (mkF m 58 #[vi 1] [(.int ((1 : Int32) <<< ((1 : Int32) &&& 31)))]) (fun _ k => XS.ishl X0.here hx rfl (hb hby d19_57) rfl k) ?_
  exact Gl.outI X0 hx hk Bd.returns (hb hby d19_58) ⟨(congrArg (fun z => some (Value.int z)) (by decide : ((1 : Int32) <<< ((1 : Int32) &&& 31)) = (2 : Int32))), N0, e0⟩ (by decide) (by decide)
theorem d18_0 : decode jdk_52_method_2_code 0 = .ok (.iload_n 0, 1) := by decide +kernel
theorem d18_1 : decode jdk_52_method_2_code 1 = .ok (.invokestatic 11, 3) := by decide +kernel
theorem d18_4 : decode jdk_52_method_2_code 4 = .ok (.newarray .byte, 2) := by decide +kernel
theorem d18_6 : decode jdk_52_method_2_code 6 = .ok (.areturn, 1) := by decide +kernel
theorem pd167 : parseMethodDescriptor "(I)I" = some ⟨[.int], some .int⟩ := by decide +kernel
theorem ef181 (m : MethodId) (x0 : Int32) : entryFrame m #[(.int x0)] 1 = mkF m 0 #[.val (.int x0)] [] := by first | (simp [entryFrame, mkF, argsToLocals, Value.category]; done) | rfl
def Q181 (Z : State) (G1 : Int32) (w_sf : Value) (h0 : Heap) (n0 : Nat) (v : Option Value) (h : Heap) (L : List Loc) : Prop := ∃ (b : Addr), ∃ (kb : ClassId), v = some (.ref b) ∧ Fr n0 L ∧ Keep h0 h [] ∧ Arv Z h b kb .byte (2 : Int32) [(.int 0), (.int 0)] (.int 0) ∧ (h0.size ≤ b)
theorem rm181 (l : Launch) (Z : State) (a0' : Array Value) (hw : ∀ d ∈ tables_1, d.before a0' Z = true) (ws : List Jvm.Cond) (G1 : Int32) (w_sf : Value) (h0 : Heap) (n0 : Nat) (O : Old Z n0 h0) (W : Wd Z G1 w_sf) :
    MetFree l mq14 (head1 (Jvm.Cond.code mq14 jdk_52_method_2_code 1 (some (.array .byte)) :: ws) ({ frames := 1, cells := 1, slots := 2, locals := 12 } : Room)) (fun a U => a = #[(.int 1)] ∧ Z.Warmed39 U.vm ∧ U.heap = h0) (fun _ _ _ _ _ => True) (fun _ U o U' => ∃ v L, o = .returned v ∧ Q181 Z  G1 w_sf h0 n0 v U'.heap L ∧ FrameEnd U o U' L ({ frames := 1, cells := 1, slots := 2, locals := 12 } : Room).cells ({ frames := 1, cells := 1, slots := 2, locals := 12 } : Room).slots) := by
  refine MetFree.of_bodySF (plainFor_of_name pn3) hisR ?_
  intro p e s m args below meth c s₁ Bd hml0 hP hK
  obtain ⟨rfl, hZ, hh⟩ := hP
  have hx := Bd.exec
  have hby := Bd.bytes
  have hml : c.maxLocals = 1 := hml0
  have hown : s.vm.findClass "java/lang/StringUTF16" = some m.cls := findClass_of_methodNamed Bd.named
  have hnm := (name_of_methodNamed Bd.named Bd.method).1
  have hk := Bd.notSynchronized
  have X0 : Stand p l e ({ frames := 1, cells := 1, slots := 2, locals := 12 } : Room) s m #[(.int 1)] below meth c s₁ [] 0 0 := Stand.of_body Bd
  have hh2 := hh
  have e0 : s₁.heap = h0 := by rw [← hh, Bd.state]; rfl
  have N0 := Fr.nil n0
  show Gl p e below (Pos 1 2 (Q181 Z  G1 w_sf h0 n0) s) s₁ _
  refine Gl.cast (ef181 m (1 : Int32)) ?_
  refine gb (mkF m 1 #[vi 1] [(.int 1)]) (fun _ k => XS.iloadN X0.here hx rfl (hb hby d18_0) rfl k) ?_
  obtain ⟨_, _, ⟨T1, L1, k1, n1⟩, -, X1, ⟨Lc1, hQ1, l1, y1, z1⟩, st1⟩ := callS X0 hx (y := mq13) hown (mvT hZ (hW hw 83 rfl)) (mvT hZ (hW hw 84 rfl)) (mvT hZ (hW hw 47 rfl)) (mvT hZ (hW hw 85 rfl)) (by decide) (backOf (W := 0) (rm191 l Z a0' hw []  G1 w_sf h0 n0 O W ) hZ (hW hw 85 rfl) (hW hw 47 rfl) (by decide) (by decide)) (g := (mkF m 1 #[vi 1] [(.int 1)])) rfl (by rw [hml]; rfl) (argsL := [(.int 1)]) (rest := []) (lenOf pd167 rfl) rfl (Nat.le_of_eq rfl) (hb hby d18_1) (fun _ _ => ⟨rfl, e0, (by decide : 0 + 0 ≤ _), (by decide : 0 + 0 ≤ _)⟩)
  dsimp only [Pt.U, Pt.locs, Pt.cells, Pt.slots] at X1 l1 y1 z1 st1 hQ1
  subst l1 y1 z1
  obtain ⟨rfl, N1q, e1⟩ := hQ1
  have N1 := Fr.app N0 N1q
  refine gb (mkF m 4 #[vi 1] [(.int 2)]) st1 ?_
  obtain ⟨T2, h2, k2, X2, e2, E2, A2, st2⟩ := newP X1 hx hZ (hW hw 20 rfl) e1 (g := (mkF m 4 #[vi 1] [(.int 2)])) rfl (hb hby d18_4) rfl (by decide) (cap := 2) (by decide) (by decide) (by decide) (by decide)
  obtain ⟨b2, g2⟩ : ∃ z, z = (h0).size := ⟨_, rfl⟩
  rw [← g2] at A2 st2
  have gb2 : n0 ≤ b2 := Nat.le_trans (Nat.le_trans (Nat.le_of_eq O.1.symm) O.2.1) (Nat.le_of_eq g2.symm)
  have sb2 : h0.size ≤ b2 := Nat.le_trans (Keep.refl h0 []).1 (Nat.le_of_eq g2.symm)
  have V2 : Arv Z h2 b2 k2 .byte (2 : Int32) [(.int 0), (.int 0)] (.int 0) := (Arv.new A2 (by decide)).pad (pad_rep [] (.int 0) 2)
  refine gb (mkF m 6 #[vi 1] [(.ref b2)]) st2 ?_
  have K3 := ((Keep.refl h0 []).ext E2)
  exact Gl.outA X2 hx hk Bd.returns rfl rfl (hb hby d18_6) (Eq.mpr (congrArg (fun hh => Q181 Z  G1 w_sf h0 n0 _ hh _) e2) (show Q181 Z  G1 w_sf h0 n0 _ h2 _ from ⟨b2, k2, rfl, N1, K3, V2, sb2⟩)) (by decide) (by decide)
theorem d17_0 : decode jdk_52_method_14_code 0 = .ok (.iload_n 2, 1) := by decide +kernel
theorem d17_1 : decode jdk_52_method_14_code 1 = .ok (.invokestatic 107, 3) := by decide +kernel
theorem d17_4 : decode jdk_52_method_14_code 4 = .ok (.astore_n 3, 1) := by decide +kernel
theorem d17_5 : decode jdk_52_method_14_code 5 = .ok (.iconst 0, 1) := by decide +kernel
theorem d17_6 : decode jdk_52_method_14_code 6 = .ok (.istore 4, 2) := by decide +kernel
theorem d17_8 : decode jdk_52_method_14_code 8 = .ok (.iload 4, 2) := by decide +kernel
theorem d17_10 : decode jdk_52_method_14_code 10 = .ok (.iload_n 2, 1) := by decide +kernel
theorem d17_11 : decode jdk_52_method_14_code 11 = .ok (.if_icmp .ge 21, 3) := by decide +kernel
theorem d17_14 : decode jdk_52_method_14_code 14 = .ok (.aload_n 3, 1) := by decide +kernel
theorem d17_15 : decode jdk_52_method_14_code 15 = .ok (.iload 4, 2) := by decide +kernel
theorem d17_17 : decode jdk_52_method_14_code 17 = .ok (.aload_n 0, 1) := by decide +kernel
theorem d17_18 : decode jdk_52_method_14_code 18 = .ok (.iload_n 1, 1) := by decide +kernel
theorem d17_19 : decode jdk_52_method_14_code 19 = .ok (.caload, 1) := by decide +kernel
theorem d17_20 : decode jdk_52_method_14_code 20 = .ok (.invokestatic 111, 3) := by decide +kernel
theorem d17_23 : decode jdk_52_method_14_code 23 = .ok (.iinc 1 1, 3) := by decide +kernel
theorem d17_26 : decode jdk_52_method_14_code 26 = .ok (.iinc 4 1, 3) := by decide +kernel
theorem d17_29 : decode jdk_52_method_14_code 29 = .ok (.goto (-21), 3) := by decide +kernel
theorem d17_32 : decode jdk_52_method_14_code 32 = .ok (.aload_n 3, 1) := by decide +kernel
theorem d17_33 : decode jdk_52_method_14_code 33 = .ok (.areturn, 1) := by decide +kernel
theorem pd187 : parseMethodDescriptor "(I)[B" = some ⟨[.int], some (.array .byte)⟩ := by decide +kernel
theorem pd188 : parseMethodDescriptor "([BII)V" = some ⟨[(.array .byte), .int, .int], none⟩ := by decide +kernel
theorem ef171 (m : MethodId) (x0 : Addr) (x1 : Int32) (x2 : Int32) : entryFrame m #[(.ref x0), (.int x1), (.int x2)] 5 = mkF m 0 #[.val (.ref x0), .val (.int x1), .val (.int x2), .unset, .unset] [] := by first | (simp [entryFrame, mkF, argsToLocals, Value.category]; done) | rfl
def Q171 (Z : State) (a0 : Addr) (ka : ClassId) (x0 : Int32) (G1 : Int32) (w_sf : Value) (h0 : Heap) (n0 : Nat) (v : Option Value) (h : Heap) (L : List Loc) : Prop := ∃ (b : Addr), ∃ (kb : ClassId), v = some (.ref b) ∧ Fr n0 L ∧ Keep h0 h [] ∧ Arv Z h b kb .byte (2 : Int32) [(.int (bA x0)), (.int (bB x0))] (.int 0) ∧ (h0.size ≤ b)
theorem rm171 (l : Launch) (Z : State) (a0' : Array Value) (hw : ∀ d ∈ tables_1, d.before a0' Z = true) (ws : List Jvm.Cond) (a0 : Addr) (ka : ClassId) (x0 : Int32) (G1 : Int32) (w_sf : Value) (h0 : Heap) (n0 : Nat) (O : Old Z n0 h0) (W : Wd Z G1 w_sf) (pf0 : Arv Z h0 a0 ka .char (1 : Int32) [(.int x0)] (.int 0)) :
    MetFree l mq15 (head1 (Jvm.Cond.code mq15 jdk_52_method_14_code 5 (some (.array .byte)) :: ws) ({ frames := 2, cells := 1, slots := 2, locals := 24 } : Room)) (fun a U => a = #[(.ref a0), (.int 0), (.int 1)] ∧ Z.Warmed39 U.vm ∧ U.heap = h0) (fun _ _ _ _ _ => True) (fun _ U o U' => ∃ v L, o = .returned v ∧ Q171 Z a0 ka x0 G1 w_sf h0 n0 v U'.heap L ∧ FrameEnd U o U' L ({ frames := 2, cells := 1, slots := 2, locals := 24 } : Room).cells ({ frames := 2, cells := 1, slots := 2, locals := 24 } : Room).slots) := by
  refine MetFree.of_bodySF (plainFor_of_name pn3) hisR ?_
  intro p e s m args below meth c s₁ Bd hml0 hP hK
  obtain ⟨rfl, hZ, hh⟩ := hP
  have hx := Bd.exec
  have hby := Bd.bytes
  have hml : c.maxLocals = 5 := hml0
  have hown : s.vm.findClass "java/lang/StringUTF16" = some m.cls := findClass_of_methodNamed Bd.named
  have hnm := (name_of_methodNamed Bd.named Bd.method).1
  have hk := Bd.notSynchronized
  have X0 : Stand p l e ({ frames := 2, cells := 1, slots := 2, locals := 24 } : Room) s m #[(.ref a0), (.int 0), (.int 1)] below meth c s₁ [] 0 0 := Stand.of_body Bd
  have hh2 := hh
  have e0 : s₁.heap = h0 := by rw [← hh, Bd.state]; rfl
  have N0 := Fr.nil n0
  show Gl p e below (Pos 1 2 (Q171 Z a0 ka x0 G1 w_sf h0 n0) s) s₁ _
  refine Gl.cast (ef171 m a0 (0 : Int32) (1 : Int32)) ?_
  refine gb (mkF m 1 #[vr a0, vi 0, vi 1, .unset, .unset] [(.int 1)]) (fun _ k => XS.iloadN X0.here hx rfl (hb hby d17_0) rfl k) ?_
  obtain ⟨_, _, ⟨T1, L1, k1, n1⟩, -, X1, ⟨Lc1, hQ1, l1, y1, z1⟩, st1⟩ := callS X0 hx (y := mq14) hown (mvT hZ (hW hw 80 rfl)) (mvT hZ (hW hw 81 rfl)) (mvT hZ (hW hw 47 rfl)) (mvT hZ (hW hw 82 rfl)) (by decide) (backOf (W := 0) (rm181 l Z a0' hw []  G1 w_sf h0 n0 O W ) hZ (hW hw 82 rfl) (hW hw 47 rfl) (by decide) (by decide)) (g := (mkF m 1 #[vr a0, vi 0, vi 1, .unset, .unset] [(.int 1)])) rfl (by rw [hml]; rfl) (argsL := [(.int 1)]) (rest := []) (lenOf pd187 rfl) rfl (Nat.le_of_eq rfl) (hb hby d17_1) (fun _ _ => ⟨rfl, e0, (by decide : 0 + 1 ≤ _), (by decide : 0 + 2 ≤ _)⟩)
  dsimp only [Pt.U, Pt.locs, Pt.cells, Pt.slots] at X1 l1 y1 z1 st1 hQ1
  subst l1 y1 z1
  obtain ⟨b_1, kb_1, rfl, N1q, Kc1, fc1_0, fc1_1⟩ := hQ1
  have N1 := Fr.app N0 N1q
  have nb2 : a0 ≠ b_1 := Nat.ne_of_lt (Nat.lt_of_lt_of_le pf0.lt fc1_1)
  refine gb (mkF m 4 #[vr a0, vi 0, vi 1, .unset, .unset] [(.ref b_1)]) st1 ?_
  refine gb (mkF m 5 #[vr a0, vi 0, vi 1, vr b_1, .unset] []) (fun _ k => XS.astoreN X1.here hx rfl (hb hby d17_4) rfl rfl (l' := #[vr a0, vi 0, vi 1, vr b_1, .unset]) rfl k) ?_
  refine gb (mkF m 6 #[vr a0, vi 0, vi 1, vr b_1, .unset] [(.int 0)]) (fun _ k => XS.iconst X1.here hx rfl (hb hby d17_5) k) ?_
  refine gb (mkF m 8 #[vr a0, vi 0, vi 1, vr b_1, vi 0] []) (fun _ k => XS.istore X1.here hx rfl (hb hby d17_6) rfl (l' := #[vr a0, vi 0, vi 1, vr b_1, vi 0]) rfl k) ?_
  refine gb (mkF m 10 #[vr a0, vi 0, vi 1, vr b_1, vi 0] [(.int 0)]) (fun _ k => XS.iload X1.here hx rfl (hb hby d17_8) rfl k) ?_
  refine gb (mkF m 11 #[vr a0, vi 0, vi 1, vr b_1, vi 0] [(.int 1), (.int 0)]) (fun _ k => XS.iloadN X1.here hx rfl (hb hby d17_10) rfl k) ?_
  refine gb (mkF m 14 #[vr a0, vi 0, vi 1, vr b_1, vi 0] []) (fun _ k => XS.icmpNo X1.here hx rfl (hb hby d17_11) rfl (tlt (by decide : (0 : Int32) < (1 : Int32))).2.1 k) ?_
  refine gb (mkF m 15 #[vr a0, vi 0, vi 1, vr b_1, vi 0] [(.ref b_1)]) (fun _ k => XS.aloadN X1.here hx rfl (hb hby d17_14) rfl rfl k) ?_
  refine gb (mkF m 17 #[vr a0, vi 0, vi 1, vr b_1, vi 0] [(.int 0), (.ref b_1)]) (fun _ k => XS.iload X1.here hx rfl (hb hby d17_15) rfl k) ?_
  refine gb (mkF m 18 #[vr a0, vi 0, vi 1, vr b_1, vi 0] [(.ref a0), (.int 0), (.ref b_1)]) (fun _ k => XS.aloadN X1.here hx rfl (hb hby d17_17) rfl rfl k) ?_
  refine gb (mkF m 19 #[vr a0, vi 0, vi 1, vr b_1, vi 0] [(.int 0), (.ref a0), (.int 0), (.ref b_1)]) (fun _ k => XS.iloadN X1.here hx rfl (hb hby d17_18) rfl k) ?_
  have f3 := (Arv.keep pf0 Kc1 nin0)
  obtain ⟨cl4, Ar4, qa4, Sa4, Na4, Ha4, Ga4⟩ := id f3
  have hin5 : ¬ ((0 : Int32) < 0 ∨ cl4.slots.size ≤ ((0 : Int32)).toNatClampNeg) := inb_of Sa4 ⟨by decide, by decide⟩
  refine gb (mkF m 20 #[vr a0, vi 0, vi 1, vr b_1, vi 0] [(.int x0), (.int 0), (.ref b_1)]) (X1.caload hx (j := (0 : Int32)) (v := (.int x0)) Ar4.1 (State.isArrayOf_alike hZ.alike Ar4.2.1) Ar4.2.2 hin5 (Has.at Ha4 hin5 rfl) (g := (mkF m 19 #[vr a0, vi 0, vi 1, vr b_1, vi 0] [(.int 0), (.ref a0), (.int 0), (.ref b_1)])) rfl rfl (hb hby d17_19)) ?_
  have O7 := (O.keep Kc1 all0)
  obtain ⟨_, _, ⟨T6, L6, k6, n6⟩, -, X6, ⟨Lc6, hQ6, l6, y6, z6⟩, st6⟩ := callS X1 hx (y := mq12) hown (mvT hZ (hW hw 87 rfl)) (mvT hZ (hW hw 88 rfl)) (mvT hZ (hW hw 47 rfl)) (mvT hZ (hW hw 89 rfl)) (by decide) (backOf (W := 0) (rm20 l Z a0' hw [] b_1 (0 : Int32) x0 kb_1 [(.int 0), (.int 0)] (2 : Int32) G1 w_sf T1.heap n0 O7 W fc1_0 (Nat.le_trans (Nat.le_trans (Nat.le_of_eq O.1.symm) O.2.1) fc1_1) (by decide) (by decide) (Nat.lt_of_lt_of_eq (by decide : ((0 : Int32) <<< ((1 : Int32) &&& 31)).toNatClampNeg < 2) rfl) (Nat.lt_of_lt_of_eq (by decide : (((0 : Int32) <<< ((1 : Int32) &&& 31)) + (1 : Int32)).toNatClampNeg < 2) rfl)) hZ (hW hw 89 rfl) (hW hw 47 rfl) (by decide) (by decide)) (g := (mkF m 20 #[vr a0, vi 0, vi 1, vr b_1, vi 0] [(.int x0), (.int 0), (.ref b_1)])) rfl (by rw [hml]; rfl) (argsL := [(.ref b_1), (.int 0), (.int x0)]) (rest := []) (lenOf pd188 rfl) rfl (Nat.le_of_eq rfl) (hb hby d17_20) (fun _ _ => ⟨rfl, rfl, (by decide : 1 + 0 ≤ _), (by decide : 2 + 0 ≤ _)⟩)
  dsimp only [Pt.U, Pt.locs, Pt.cells, Pt.slots] at X6 l6 y6 z6 st6 hQ6
  subst l6 y6 z6
  obtain ⟨rfl, N6q, Kc6, fc6_0⟩ := hQ6
  have N6 := Fr.app N1 N6q
  have fr8 : Arv Z T6.heap b_1 kb_1 .byte (2 : Int32) [(.int (bA x0)), (.int (bB x0))] (.int 0) := arv_at fc6_0 (by decide : (((0 : Int32) <<< ((1 : Int32) &&& 31))).toNatClampNeg = 0) (by decide : ((((0 : Int32) <<< ((1 : Int32) &&& 31)) + (1 : Int32))).toNatClampNeg = 1)
  refine gb (mkF m 23 #[vr a0, vi 0, vi 1, vr b_1, vi 0] []) st6 ?_
  refine gb (mkF m 26 #[vr a0, vi 1, vi 1, vr b_1, vi 0] []) (fun _ k => XS.iinc X6.here hx rfl (hb hby d17_23) rfl (l' := #[vr a0, vi 1, vi 1, vr b_1, vi 0]) rfl k) ?_
  refine gb (mkF m 29 #[vr a0, vi 1, vi 1, vr b_1, vi 1] []) (fun _ k => XS.iinc X6.here hx rfl (hb hby d17_26) rfl (l' := #[vr a0, vi 1, vi 1, vr b_1, vi 1]) rfl k) ?_
  refine gb (mkF m 8 #[vr a0, vi 1, vi 1, vr b_1, vi 1] []) (fun _ k => XS.goto X6.here hx rfl (pc0 := 29) (pc' := 8) rfl (hb hby d17_29) (by decide) (by decide) k) ?_
  refine gb (mkF m 10 #[vr a0, vi 1, vi 1, vr b_1, vi 1] [(.int 1)]) (fun _ k => XS.iload X6.here hx rfl (hb hby d17_8) rfl k) ?_
  refine gb (mkF m 11 #[vr a0, vi 1, vi 1, vr b_1, vi 1] [(.int 1), (.int 1)]) (fun _ k => XS.iloadN X6.here hx rfl (hb hby d17_10) rfl k) ?_
  refine gb (mkF m 32 #[vr a0, vi 1, vi 1, vr b_1, vi 1] []) (fun _ k => XS.icmpYes X6.here hx rfl (pc0 := 11) (pc' := 32) rfl (hb hby d17_11) rfl (flt (by decide : ¬ ((1 : Int32) < (1 : Int32)))).2.1 (by decide) (by decide) k) ?_
  refine gb (mkF m 33 #[vr a0, vi 1, vi 1, vr b_1, vi 1] [(.ref b_1)]) (fun _ k => XS.aloadN X6.here hx rfl (hb hby d17_32) rfl rfl k) ?_
  have K9 := (((Keep.refl h0 []).trans Kc1 all0).trans Kc6 (allS (Or.inr (Nat.le_trans (Keep.refl h0 []).1 fc1_1)) all0))
  exact Gl.outA X6 hx hk Bd.returns rfl rfl (hb hby d17_33) ⟨b_1, kb_1, rfl, N6, K9, fr8, (Nat.le_trans (Keep.refl h0 []).1 fc1_1)⟩ (by decide) (by decide)
theorem ef192 (m : MethodId) (x0 : Int32) : entryFrame m #[(.int x0)] 1 = mkF m 0 #[.val (.int x0)] [] := by first | (simp [entryFrame, mkF, argsToLocals, Value.category]; done) | rfl
def Q192 (Z : State) (G1 : Int32) (w_sf : Value) (h0 : Heap) (n0 : Nat) (v : Option Value) (h : Heap) (L : List Loc) : Prop := v = some (.int 4) ∧ Fr n0 L ∧ h = h0
theorem rm192 (l : Launch) (Z : State) (a0' : Array Value) (hw : ∀ d ∈ tables_1, d.before a0' Z = true) (ws : List Jvm.Cond) (G1 : Int32) (w_sf : Value) (h0 : Heap) (n0 : Nat) (O : Old Z n0 h0) (W : Wd Z G1 w_sf) :
    MetFree l mq13 (head1 (Jvm.Cond.code mq13 jdk_52_method_3_code 1 (some .int) :: ws) ({ frames := 0, cells := 0, slots := 0, locals := 0 } : Room)) (fun a U => a = #[(.int 2)] ∧ Z.Warmed39 U.vm ∧ U.heap = h0) (fun _ _ _ _ _ => True) (fun _ U o U' => ∃ v L, o = .returned v ∧ Q192 Z  G1 w_sf h0 n0 v U'.heap L ∧ FrameEnd U o U' L ({ frames := 0, cells := 0, slots := 0, locals := 0 } : Room).cells ({ frames := 0, cells := 0, slots := 0, locals := 0 } : Room).slots) := by
  refine MetFree.of_bodySF (plainFor_of_name pn3) hisR ?_
  intro p e s m args below meth c s₁ Bd hml0 hP hK
  obtain ⟨rfl, hZ, hh⟩ := hP
  have hx := Bd.exec
  have hby := Bd.bytes
  have hml : c.maxLocals = 1 := hml0
  have hown : s.vm.findClass "java/lang/StringUTF16" = some m.cls := findClass_of_methodNamed Bd.named
  have hnm := (name_of_methodNamed Bd.named Bd.method).1
  have hk := Bd.notSynchronized
  have X0 : Stand p l e ({ frames := 0, cells := 0, slots := 0, locals := 0 } : Room) s m #[(.int 2)] below meth c s₁ [] 0 0 := Stand.of_body Bd
  have hh2 := hh
  have e0 : s₁.heap = h0 := by rw [← hh, Bd.state]; rfl
  have N0 := Fr.nil n0
  show Gl p e below (Pos 0 0 (Q192 Z  G1 w_sf h0 n0) s) s₁ _
  refine Gl.cast (ef192 m (2 : Int32)) ?_
  refine gb (mkF m 1 #[vi 2] [(.int 2)]) (fun _ k => XS.iloadN X0.here hx rfl (hb hby d19_0) rfl k) ?_
  refine gb (mkF m 12 #[vi 2] []) (fun _ k => XS.ifYes X0.here hx rfl (pc0 := 1) (pc' := 12) rfl (hb hby d19_1) rfl ((if0 _ _).trans (flt (by decide : ¬ ((2 : Int32) < (0 : Int32)))).2.1) (by decide) (by decide) k) ?_
  refine gb (mkF m 13 #[vi 2] [(.int 2)]) (fun _ k => XS.iloadN X0.here hx rfl (hb hby d19_12) rfl k) ?_
  refine gb (mkF m 15 #[vi 2] [(.int 1073741823), (.int 2)]) (X0.ldcInt hx hown (mvT hZ (hW hw 86 rfl)) (g := (mkF m 13 #[vi 2] [(.int 2)])) rfl (hb hby d19_13)) ?_
  refine gb (mkF m 55 #[vi 2] []) (fun _ k => XS.icmpYes X0.here hx rfl (pc0 := 15) (pc' := 55) rfl (hb hby d19_15) rfl (tlt (by decide : (2 : Int32) < (1073741823 : Int32))).1 (by decide) (by decide) k) ?_
  refine gb (mkF m 56 #[vi 2] [(.int 2)]) (fun _ k => XS.iloadN X0.here hx rfl (hb hby d19_55) rfl k) ?_
  refine gb (mkF m 57 #[vi 2] [(.int 1), (.int 2)]) (fun _ k => XS.iconst X0.here hx rfl (hb hby d19_56) k) ?_
  refine gb (mkF m 58 #[vi 2] [(.int ((2 : Int32) <<< ((1 : Int32) &&& 31)))]) (fun _ k => XS.ishl X0.here hx rfl (hb hby d19_57) rfl k) ?_
  exact Gl.outI X0 hx hk Bd.returns (hb hby d19_58) ⟨(congrArg (fun z => some (Value.int z)) (by decide : ((2 : Int32) <<< ((1 : Int32) &&& 31)) = (4 : Int32))), N0, e0⟩ (by decide) (by decide)
theorem ef182 (m : MethodId) (x0 : Int32) : entryFrame m #[(.int x0)] 1 = mkF m 0 #[.val (.int x0)] [] := by first | (simp [entryFrame, mkF, argsToLocals, Value.category]; done) | rfl
def Q182 (Z : State) (G1 : Int32) (w_sf : Value) (h0 : Heap) (n0 : Nat) (v : Option Value) (h : Heap) (L : List Loc) : Prop := ∃ (b : Addr), ∃ (kb : ClassId), v = some (.ref b) ∧ Fr n0 L ∧ Keep h0 h [] ∧ Arv Z h b kb .byte (4 : Int32) [(.int 0), (.int 0), (.int 0), (.int 0)] (.int 0) ∧ (h0.size ≤ b)
theorem rm182 (l : Launch) (Z : State) (a0' : Array Value) (hw : ∀ d ∈ tables_1, d.before a0' Z = true) (ws : List Jvm.Cond) (G1 : Int32) (w_sf : Value) (h0 : Heap) (n0 : Nat) (O : Old Z n0 h0) (W : Wd Z G1 w_sf) :
    MetFree l mq14 (head1 (Jvm.Cond.code mq14 jdk_52_method_2_code 1 (some (.array .byte)) :: ws) ({ frames := 1, cells := 1, slots := 4, locals := 12 } : Room)) (fun a U => a = #[(.int 2)] ∧ Z.Warmed39 U.vm ∧ U.heap = h0) (fun _ _ _ _ _ => True) (fun _ U o U' => ∃ v L, o = .returned v ∧ Q182 Z  G1 w_sf h0 n0 v U'.heap L ∧ FrameEnd U o U' L ({ frames := 1, cells := 1, slots := 4, locals := 12 } : Room).cells ({ frames := 1, cells := 1, slots := 4, locals := 12 } : Room).slots) := by
  refine MetFree.of_bodySF (plainFor_of_name pn3) hisR ?_
  intro p e s m args below meth c s₁ Bd hml0 hP hK
  obtain ⟨rfl, hZ, hh⟩ := hP
  have hx := Bd.exec
  have hby := Bd.bytes
  have hml : c.maxLocals = 1 := hml0
  have hown : s.vm.findClass "java/lang/StringUTF16" = some m.cls := findClass_of_methodNamed Bd.named
  have hnm := (name_of_methodNamed Bd.named Bd.method).1
  have hk := Bd.notSynchronized
  have X0 : Stand p l e ({ frames := 1, cells := 1, slots := 4, locals := 12 } : Room) s m #[(.int 2)] below meth c s₁ [] 0 0 := Stand.of_body Bd
  have hh2 := hh
  have e0 : s₁.heap = h0 := by rw [← hh, Bd.state]; rfl
  have N0 := Fr.nil n0
  show Gl p e below (Pos 1 4 (Q182 Z  G1 w_sf h0 n0) s) s₁ _
  refine Gl.cast (ef182 m (2 : Int32)) ?_
  refine gb (mkF m 1 #[vi 2] [(.int 2)]) (fun _ k => XS.iloadN X0.here hx rfl (hb hby d18_0) rfl k) ?_
  obtain ⟨_, _, ⟨T1, L1, k1, n1⟩, -, X1, ⟨Lc1, hQ1, l1, y1, z1⟩, st1⟩ := callS X0 hx (y := mq13) hown (mvT hZ (hW hw 83 rfl)) (mvT hZ (hW hw 84 rfl)) (mvT hZ (hW hw 47 rfl)) (mvT hZ (hW hw 85 rfl)) (by decide) (backOf (W := 0) (rm192 l Z a0' hw []  G1 w_sf h0 n0 O W ) hZ (hW hw 85 rfl) (hW hw 47 rfl) (by decide) (by decide)) (g := (mkF m 1 #[vi 2] [(.int 2)])) rfl (by rw [hml]; rfl) (argsL := [(.int 2)]) (rest := []) (lenOf pd167 rfl) rfl (Nat.le_of_eq rfl) (hb hby d18_1) (fun _ _ => ⟨rfl, e0, (by decide : 0 + 0 ≤ _), (by decide : 0 + 0 ≤ _)⟩)
  dsimp only [Pt.U, Pt.locs, Pt.cells, Pt.slots] at X1 l1 y1 z1 st1 hQ1
  subst l1 y1 z1
  obtain ⟨rfl, N1q, e1⟩ := hQ1
  have N1 := Fr.app N0 N1q
  refine gb (mkF m 4 #[vi 2] [(.int 4)]) st1 ?_
  obtain ⟨T2, h2, k2, X2, e2, E2, A2, st2⟩ := newP X1 hx hZ (hW hw 20 rfl) e1 (g := (mkF m 4 #[vi 2] [(.int 4)])) rfl (hb hby d18_4) rfl (by decide) (cap := 4) (by decide) (by decide) (by decide) (by decide)
  obtain ⟨b2, g2⟩ : ∃ z, z = (h0).size := ⟨_, rfl⟩
  rw [← g2] at A2 st2
  have gb2 : n0 ≤ b2 := Nat.le_trans (Nat.le_trans (Nat.le_of_eq O.1.symm) O.2.1) (Nat.le_of_eq g2.symm)
  have sb2 : h0.size ≤ b2 := Nat.le_trans (Keep.refl h0 []).1 (Nat.le_of_eq g2.symm)
  have V2 : Arv Z h2 b2 k2 .byte (4 : Int32) [(.int 0), (.int 0), (.int 0), (.int 0)] (.int 0) := (Arv.new A2 (by decide)).pad (pad_rep [] (.int 0) 4)
  refine gb (mkF m 6 #[vi 2] [(.ref b2)]) st2 ?_
  have K3 := ((Keep.refl h0 []).ext E2)
  exact Gl.outA X2 hx hk Bd.returns rfl rfl (hb hby d18_6) (Eq.mpr (congrArg (fun hh => Q182 Z  G1 w_sf h0 n0 _ hh _) e2) (show Q182 Z  G1 w_sf h0 n0 _ h2 _ from ⟨b2, k2, rfl, N1, K3, V2, sb2⟩)) (by decide) (by decide)
theorem ef172 (m : MethodId) (x0 : Addr) (x1 : Int32) (x2 : Int32) : entryFrame m #[(.ref x0), (.int x1), (.int x2)] 5 = mkF m 0 #[.val (.ref x0), .val (.int x1), .val (.int x2), .unset, .unset] [] := by first | (simp [entryFrame, mkF, argsToLocals, Value.category]; done) | rfl
def Q172 (Z : State) (a0 : Addr) (ka : ClassId) (x0 : Int32) (x1 : Int32) (G1 : Int32) (w_sf : Value) (h0 : Heap) (n0 : Nat) (v : Option Value) (h : Heap) (L : List Loc) : Prop := ∃ (b : Addr), ∃ (kb : ClassId), v = some (.ref b) ∧ Fr n0 L ∧ Keep h0 h [] ∧ Arv Z h b kb .byte (4 : Int32) [(.int (bA x0)), (.int (bB x0)), (.int (bA x1)), (.int (bB x1))] (.int 0) ∧ (h0.size ≤ b)
theorem rm172 (l : Launch) (Z : State) (a0' : Array Value) (hw : ∀ d ∈ tables_1, d.before a0' Z = true) (ws : List Jvm.Cond) (a0 : Addr) (ka : ClassId) (x0 : Int32) (x1 : Int32) (G1 : Int32) (w_sf : Value) (h0 : Heap) (n0 : Nat) (O : Old Z n0 h0) (W : Wd Z G1 w_sf) (pf0 : Arv Z h0 a0 ka .char (2 : Int32) [(.int x0), (.int x1)] (.int 0)) :
    MetFree l mq15 (head1 (Jvm.Cond.code mq15 jdk_52_method_14_code 5 (some (.array .byte)) :: ws) ({ frames := 2, cells := 1, slots := 4, locals := 24 } : Room)) (fun a U => a = #[(.ref a0), (.int 0), (.int 2)] ∧ Z.Warmed39 U.vm ∧ U.heap = h0) (fun _ _ _ _ _ => True) (fun _ U o U' => ∃ v L, o = .returned v ∧ Q172 Z a0 ka x0 x1 G1 w_sf h0 n0 v U'.heap L ∧ FrameEnd U o U' L ({ frames := 2, cells := 1, slots := 4, locals := 24 } : Room).cells ({ frames := 2, cells := 1, slots := 4, locals := 24 } : Room).slots) := by
  refine MetFree.of_bodySF (plainFor_of_name pn3) hisR ?_
  intro p e s m args below meth c s₁ Bd hml0 hP hK
  obtain ⟨rfl, hZ, hh⟩ := hP
  have hx := Bd.exec
  have hby := Bd.bytes
  have hml : c.maxLocals = 5 := hml0
  have hown : s.vm.findClass "java/lang/StringUTF16" = some m.cls := findClass_of_methodNamed Bd.named
  have hnm := (name_of_methodNamed Bd.named Bd.method).1
  have hk := Bd.notSynchronized
  have X0 : Stand p l e ({ frames := 2, cells := 1, slots := 4, locals := 24 } : Room) s m #[(.ref a0), (.int 0), (.int 2)] below meth c s₁ [] 0 0 := Stand.of_body Bd
  have hh2 := hh
  have e0 : s₁.heap = h0 := by rw [← hh, Bd.state]; rfl
  have N0 := Fr.nil n0
  show Gl p e below (Pos 1 4 (Q172 Z a0 ka x0 x1 G1 w_sf h0 n0) s) s₁ _
  refine Gl.cast (ef172 m a0 (0 : Int32) (2 : Int32)) ?_
  refine gb (mkF m 1 #[vr a0, vi 0, vi 2, .unset, .unset] [(.int 2)]) (fun _ k => XS.iloadN X0.here hx rfl (hb hby d17_0) rfl k) ?_
  obtain ⟨_, _, ⟨T1, L1, k1, n1⟩, -, X1, ⟨Lc1, hQ1, l1, y1, z1⟩, st1⟩ := callS X0 hx (y := mq14) hown (mvT hZ (hW hw 80 rfl)) (mvT hZ (hW hw 81 rfl)) (mvT hZ (hW hw 47 rfl)) (mvT hZ (hW hw 82 rfl)) (by decide) (backOf (W := 0) (rm182 l Z a0' hw []  G1 w_sf h0 n0 O W ) hZ (hW hw 82 rfl) (hW hw 47 rfl) (by decide) (by decide)) (g := (mkF m 1 #[vr a0, vi 0, vi 2, .unset, .unset] [(.int 2)])) rfl (by rw [hml]; rfl) (argsL := [(.int 2)]) (rest := []) (lenOf pd187 rfl) rfl (Nat.le_of_eq rfl) (hb hby d17_1) (fun _ _ => ⟨rfl, e0, (by decide : 0 + 1 ≤ _), (by decide : 0 + 4 ≤ _)⟩)
  dsimp only [Pt.U, Pt.locs, Pt.cells, Pt.slots] at X1 l1 y1 z1 st1 hQ1
  subst l1 y1 z1
  obtain ⟨b_1, kb_1, rfl, N1q, Kc1, fc1_0, fc1_1⟩ := hQ1
  have N1 := Fr.app N0 N1q
  have nb2 : a0 ≠ b_1 := Nat.ne_of_lt (Nat.lt_of_lt_of_le pf0.lt fc1_1)
  refine gb (mkF m 4 #[vr a0, vi 0, vi 2, .unset, .unset] [(.ref b_1)]) st1 ?_
  refine gb (mkF m 5 #[vr a0, vi 0, vi 2, vr b_1, .unset] []) (fun _ k => XS.astoreN X1.here hx rfl (hb hby d17_4) rfl rfl (l' := #[vr a0, vi 0, vi 2, vr b_1, .unset]) rfl k) ?_
  refine gb (mkF m 6 #[vr a0, vi 0, vi 2, vr b_1, .unset] [(.int 0)]) (fun _ k => XS.iconst X1.here hx rfl (hb hby d17_5) k) ?_
  refine gb (mkF m 8 #[vr a0, vi 0, vi 2, vr b_1, vi 0] []) (fun _ k => XS.istore X1.here hx rfl (hb hby d17_6) rfl (l' := #[vr a0, vi 0, vi 2, vr b_1, vi 0]) rfl k) ?_
  refine gb (mkF m 10 #[vr a0, vi 0, vi 2, vr b_1, vi 0] [(.int 0)]) (fun _ k => XS.iload X1.here hx rfl (hb hby d17_8) rfl k) ?_
  refine gb (mkF m 11 #[vr a0, vi 0, vi 2, vr b_1, vi 0] [(.int 2), (.int 0)]) (fun _ k => XS.iloadN X1.here hx rfl (hb hby d17_10) rfl k) ?_
  refine gb (mkF m 14 #[vr a0, vi 0, vi 2, vr b_1, vi 0] []) (fun _ k => XS.icmpNo X1.here hx rfl (hb hby d17_11) rfl (tlt (by decide : (0 : Int32) < (2 : Int32))).2.1 k) ?_
  refine gb (mkF m 15 #[vr a0, vi 0, vi 2, vr b_1, vi 0] [(.ref b_1)]) (fun _ k => XS.aloadN X1.here hx rfl (hb hby d17_14) rfl rfl k) ?_
  refine gb (mkF m 17 #[vr a0, vi 0, vi 2, vr b_1, vi 0] [(.int 0), (.ref b_1)]) (fun _ k => XS.iload X1.here hx rfl (hb hby d17_15) rfl k) ?_
  refine gb (mkF m 18 #[vr a0, vi 0, vi 2, vr b_1, vi 0] [(.ref a0), (.int 0), (.ref b_1)]) (fun _ k => XS.aloadN X1.here hx rfl (hb hby d17_17) rfl rfl k) ?_
  refine gb (mkF m 19 #[vr a0, vi 0, vi 2, vr b_1, vi 0] [(.int 0), (.ref a0), (.int 0), (.ref b_1)]) (fun _ k => XS.iloadN X1.here hx rfl (hb hby d17_18) rfl k) ?_
  have f3 := (Arv.keep pf0 Kc1 nin0)
  obtain ⟨cl4, Ar4, qa4, Sa4, Na4, Ha4, Ga4⟩ := id f3
  have hin5 : ¬ ((0 : Int32) < 0 ∨ cl4.slots.size ≤ ((0 : Int32)).toNatClampNeg) := inb_of Sa4 ⟨by decide, by decide⟩
  refine gb (mkF m 20 #[vr a0, vi 0, vi 2, vr b_1, vi 0] [(.int x0), (.int 0), (.ref b_1)]) (X1.caload hx (j := (0 : Int32)) (v := (.int x0)) Ar4.1 (State.isArrayOf_alike hZ.alike Ar4.2.1) Ar4.2.2 hin5 (Has.at Ha4 hin5 rfl) (g := (mkF m 19 #[vr a0, vi 0, vi 2, vr b_1, vi 0] [(.int 0), (.ref a0), (.int 0), (.ref b_1)])) rfl rfl (hb hby d17_19)) ?_
  have O7 := (O.keep Kc1 all0)
  obtain ⟨_, _, ⟨T6, L6, k6, n6⟩, -, X6, ⟨Lc6, hQ6, l6, y6, z6⟩, st6⟩ := callS X1 hx (y := mq12) hown (mvT hZ (hW hw 87 rfl)) (mvT hZ (hW hw 88 rfl)) (mvT hZ (hW hw 47 rfl)) (mvT hZ (hW hw 89 rfl)) (by decide) (backOf (W := 0) (rm20 l Z a0' hw [] b_1 (0 : Int32) x0 kb_1 [(.int 0), (.int 0), (.int 0), (.int 0)] (4 : Int32) G1 w_sf T1.heap n0 O7 W fc1_0 (Nat.le_trans (Nat.le_trans (Nat.le_of_eq O.1.symm) O.2.1) fc1_1) (by decide) (by decide) (Nat.lt_of_lt_of_eq (by decide : ((0 : Int32) <<< ((1 : Int32) &&& 31)).toNatClampNeg < 4) rfl) (Nat.lt_of_lt_of_eq (by decide : (((0 : Int32) <<< ((1 : Int32) &&& 31)) + (1 : Int32)).toNatClampNeg < 4) rfl)) hZ (hW hw 89 rfl) (hW hw 47 rfl) (by decide) (by decide)) (g := (mkF m 20 #[vr a0, vi 0, vi 2, vr b_1, vi 0] [(.int x0), (.int 0), (.ref b_1)])) rfl (by rw [hml]; rfl) (argsL := [(.ref b_1), (.int 0), (.int x0)]) (rest := []) (lenOf pd188 rfl) rfl (Nat.le_of_eq rfl) (hb hby d17_20) (fun _ _ => ⟨rfl, rfl, (by decide : 1 + 0 ≤ _), (by decide : 4 + 0 ≤ _)⟩)
  dsimp only [Pt.U, Pt.locs, Pt.cells, Pt.slots] at X6 l6 y6 z6 st6 hQ6
  subst l6 y6 z6
  obtain ⟨rfl, N6q, Kc6, fc6_0⟩ := hQ6
  have N6 := Fr.app N1 N6q
  have fr8 : Arv Z T6.heap b_1 kb_1 .byte (4 : Int32) [(.int (bA x0)), (.int (bB x0)), (.int 0), (.int 0)] (.int 0) := arv_at fc6_0 (by decide : (((0 : Int32) <<< ((1 : Int32) &&& 31))).toNatClampNeg = 0) (by decide : ((((0 : Int32) <<< ((1 : Int32) &&& 31)) + (1 : Int32))).toNatClampNeg = 1)
  refine gb (mkF m 23 #[vr a0, vi 0, vi 2, vr b_1, vi 0] []) st6 ?_
  refine gb (mkF m 26 #[vr a0, vi 1, vi 2, vr b_1, vi 0] []) (fun _ k => XS.iinc X6.here hx rfl (hb hby d17_23) rfl (l' := #[vr a0, vi 1, vi 2, vr b_1, vi 0]) rfl k) ?_
  refine gb (mkF m 29 #[vr a0, vi 1, vi 2, vr b_1, vi 1] []) (fun _ k => XS.iinc X6.here hx rfl (hb hby d17_26) rfl (l' := #[vr a0, vi 1, vi 2, vr b_1, vi 1]) rfl k) ?_
  refine gb (mkF m 8 #[vr a0, vi 1, vi 2, vr b_1, vi 1] []) (fun _ k => XS.goto X6.here hx rfl (pc0 := 29) (pc' := 8) rfl (hb hby d17_29) (by decide) (by decide) k) ?_
  refine gb (mkF m 10 #[vr a0, vi 1, vi 2, vr b_1, vi 1] [(.int 1)]) (fun _ k => XS.iload X6.here hx rfl (hb hby d17_8) rfl k) ?_
  refine gb (mkF m 11 #[vr a0, vi 1, vi 2, vr b_1, vi 1] [(.int 2), (.int 1)]) (fun _ k => XS.iloadN X6.here hx rfl (hb hby d17_10) rfl k) ?_
  refine gb (mkF m 14 #[vr a0, vi 1, vi 2, vr b_1, vi 1] []) (fun _ k => XS.icmpNo X6.here hx rfl (hb hby d17_11) rfl (tlt (by decide : (1 : Int32) < (2 : Int32))).2.1 k) ?_
  refine gb (mkF m 15 #[vr a0, vi 1, vi 2, vr b_1, vi 1] [(.ref b_1)]) (fun _ k => XS.aloadN X6.here hx rfl (hb hby d17_14) rfl rfl k) ?_
  refine gb (mkF m 17 #[vr a0, vi 1, vi 2, vr b_1, vi 1] [(.int 1), (.ref b_1)]) (fun _ k => XS.iload X6.here hx rfl (hb hby d17_15) rfl k) ?_
  refine gb (mkF m 18 #[vr a0, vi 1, vi 2, vr b_1, vi 1] [(.ref a0), (.int 1), (.ref b_1)]) (fun _ k => XS.aloadN X6.here hx rfl (hb hby d17_17) rfl rfl k) ?_
  refine gb (mkF m 19 #[vr a0, vi 1, vi 2, vr b_1, vi 1] [(.int 1), (.ref a0), (.int 1), (.ref b_1)]) (fun _ k => XS.iloadN X6.here hx rfl (hb hby d17_18) rfl k) ?_
  have f9 := (Arv.keep f3 Kc6 (ninS nb2 nin0))
  obtain ⟨cl10, Ar10, qa10, Sa10, Na10, Ha10, Ga10⟩ := id f9
  have hin11 : ¬ ((1 : Int32) < 0 ∨ cl10.slots.size ≤ ((1 : Int32)).toNatClampNeg) := inb_of Sa10 ⟨by decide, by decide⟩
  refine gb (mkF m 20 #[vr a0, vi 1, vi 2, vr b_1, vi 1] [(.int x1), (.int 1), (.ref b_1)]) (X6.caload hx (j := (1 : Int32)) (v := (.int x1)) Ar10.1 (State.isArrayOf_alike hZ.alike Ar10.2.1) Ar10.2.2 hin11 (Has.at Ha10 hin11 (congrArg (fun k => List.getD ([(.int x0), (.int x1)] : List Value) k (.int 0)) (by decide : ((1 : Int32)).toNatClampNeg = 1))) (g := (mkF m 19 #[vr a0, vi 1, vi 2, vr b_1, vi 1] [(.int 1), (.ref a0), (.int 1), (.ref b_1)])) rfl rfl (hb hby d17_19)) ?_
  have O13 := (O7.keep Kc6 (allS (Nat.le_trans (Nat.le_trans (Nat.le_of_eq O.1.symm) O.2.1) fc1_1) all0))
  obtain ⟨_, _, ⟨T12, L12, k12, n12⟩, -, X12, ⟨Lc12, hQ12, l12, y12, z12⟩, st12⟩ := callS X6 hx (y := mq12) hown (mvT hZ (hW hw 87 rfl)) (mvT hZ (hW hw 88 rfl)) (mvT hZ (hW hw 47 rfl)) (mvT hZ (hW hw 89 rfl)) (by decide) (backOf (W := 0) (rm20 l Z a0' hw [] b_1 (1 : Int32) x1 kb_1 [(.int (bA x0)), (.int (bB x0)), (.int 0), (.int 0)] (4 : Int32) G1 w_sf T6.heap n0 O13 W fr8 (Nat.le_trans (Nat.le_trans (Nat.le_of_eq O.1.symm) O.2.1) fc1_1) (by decide) (by decide) (Nat.lt_of_lt_of_eq (by decide : ((1 : Int32) <<< ((1 : Int32) &&& 31)).toNatClampNeg < 4) rfl) (Nat.lt_of_lt_of_eq (by decide : (((1 : Int32) <<< ((1 : Int32) &&& 31)) + (1 : Int32)).toNatClampNeg < 4) rfl)) hZ (hW hw 89 rfl) (hW hw 47 rfl) (by decide) (by decide)) (g := (mkF m 20 #[vr a0, vi 1, vi 2, vr b_1, vi 1] [(.int x1), (.int 1), (.ref b_1)])) rfl (by rw [hml]; rfl) (argsL := [(.ref b_1), (.int 1), (.int x1)]) (rest := []) (lenOf pd188 rfl) rfl (Nat.le_of_eq rfl) (hb hby d17_20) (fun _ _ => ⟨rfl, rfl, (by decide : 1 + 0 ≤ _), (by decide : 4 + 0 ≤ _)⟩)
  dsimp only [Pt.U, Pt.locs, Pt.cells, Pt.slots] at X12 l12 y12 z12 st12 hQ12
  subst l12 y12 z12
  obtain ⟨rfl, N12q, Kc12, fc12_0⟩ := hQ12
  have N12 := Fr.app N6 N12q
  have fr14 : Arv Z T12.heap b_1 kb_1 .byte (4 : Int32) [(.int (bA x0)), (.int (bB x0)), (.int (bA x1)), (.int (bB x1))] (.int 0) := arv_at fc12_0 (by decide : (((1 : Int32) <<< ((1 : Int32) &&& 31))).toNatClampNeg = 2) (by decide : ((((1 : Int32) <<< ((1 : Int32) &&& 31)) + (1 : Int32))).toNatClampNeg = 3)
  refine gb (mkF m 23 #[vr a0, vi 1, vi 2, vr b_1, vi 1] []) st12 ?_
  refine gb (mkF m 26 #[vr a0, vi 2, vi 2, vr b_1, vi 1] []) (fun _ k => XS.iinc X12.here hx rfl (hb hby d17_23) rfl (l' := #[vr a0, vi 2, vi 2, vr b_1, vi 1]) rfl k) ?_
  refine gb (mkF m 29 #[vr a0, vi 2, vi 2, vr b_1, vi 2] []) (fun _ k => XS.iinc X12.here hx rfl (hb hby d17_26) rfl (l' := #[vr a0, vi 2, vi 2, vr b_1, vi 2]) rfl k) ?_
  refine gb (mkF m 8 #[vr a0, vi 2, vi 2, vr b_1, vi 2] []) (fun _ k => XS.goto X12.here hx rfl (pc0 := 29) (pc' := 8) rfl (hb hby d17_29) (by decide) (by decide) k) ?_
  refine gb (mkF m 10 #[vr a0, vi 2, vi 2, vr b_1, vi 2] [(.int 2)]) (fun _ k => XS.iload X12.here hx rfl (hb hby d17_8) rfl k) ?_
  refine gb (mkF m 11 #[vr a0, vi 2, vi 2, vr b_1, vi 2] [(.int 2), (.int 2)]) (fun _ k => XS.iloadN X12.here hx rfl (hb hby d17_10) rfl k) ?_
  refine gb (mkF m 32 #[vr a0, vi 2, vi 2, vr b_1, vi 2] []) (fun _ k => XS.icmpYes X12.here hx rfl (pc0 := 11) (pc' := 32) rfl (hb hby d17_11) rfl (flt (by decide : ¬ ((2 : Int32) < (2 : Int32)))).2.1 (by decide) (by decide) k) ?_
  refine gb (mkF m 33 #[vr a0, vi 2, vi 2, vr b_1, vi 2] [(.ref b_1)]) (fun _ k => XS.aloadN X12.here hx rfl (hb hby d17_32) rfl rfl k) ?_
  have K15 := ((((Keep.refl h0 []).trans Kc1 all0).trans Kc6 (allS (Or.inr (Nat.le_trans (Keep.refl h0 []).1 fc1_1)) all0)).trans Kc12 (allS (Or.inr (Nat.le_trans (Keep.refl h0 []).1 fc1_1)) all0))
  exact Gl.outA X12 hx hk Bd.returns rfl rfl (hb hby d17_33) ⟨b_1, kb_1, rfl, N12, K15, fr14, (Nat.le_trans (Keep.refl h0 []).1 fc1_1)⟩ (by decide) (by decide)
theorem ef193 (m : MethodId) (x0 : Int32) : entryFrame m #[(.int x0)] 1 = mkF m 0 #[.val (.int x0)] [] := by first | (simp [entryFrame, mkF, argsToLocals, Value.category]; done) | rfl
def Q193 (Z : State) (G1 : Int32) (w_sf : Value) (h0 : Heap) (n0 : Nat) (v : Option Value) (h : Heap) (L : List Loc) : Prop := v = some (.int 6) ∧ Fr n0 L ∧ h = h0
theorem rm193 (l : Launch) (Z : State) (a0' : Array Value) (hw : ∀ d ∈ tables_1, d.before a0' Z = true) (ws : List Jvm.Cond) (G1 : Int32) (w_sf : Value) (h0 : Heap) (n0 : Nat) (O : Old Z n0 h0) (W : Wd Z G1 w_sf) :
    MetFree l mq13 (head1 (Jvm.Cond.code mq13 jdk_52_method_3_code 1 (some .int) :: ws) ({ frames := 0, cells := 0, slots := 0, locals := 0 } : Room)) (fun a U => a = #[(.int 3)] ∧ Z.Warmed39 U.vm ∧ U.heap = h0) (fun _ _ _ _ _ => True) (fun _ U o U' => ∃ v L, o = .returned v ∧ Q193 Z  G1 w_sf h0 n0 v U'.heap L ∧ FrameEnd U o U' L ({ frames := 0, cells := 0, slots := 0, locals := 0 } : Room).cells ({ frames := 0, cells := 0, slots := 0, locals := 0 } : Room).slots) := by
  refine MetFree.of_bodySF (plainFor_of_name pn3) hisR ?_
  intro p e s m args below meth c s₁ Bd hml0 hP hK
  obtain ⟨rfl, hZ, hh⟩ := hP
  have hx := Bd.exec
  have hby := Bd.bytes
  have hml : c.maxLocals = 1 := hml0
  have hown : s.vm.findClass "java/lang/StringUTF16" = some m.cls := findClass_of_methodNamed Bd.named
  have hnm := (name_of_methodNamed Bd.named Bd.method).1
  have hk := Bd.notSynchronized
  have X0 : Stand p l e ({ frames := 0, cells := 0, slots := 0, locals := 0 } : Room) s m #[(.int 3)] below meth c s₁ [] 0 0 := Stand.of_body Bd
  have hh2 := hh
  have e0 : s₁.heap = h0 := by rw [← hh, Bd.state]; rfl
  have N0 := Fr.nil n0
  show Gl p e below (Pos 0 0 (Q193 Z  G1 w_sf h0 n0) s) s₁ _
  refine Gl.cast (ef193 m (3 : Int32)) ?_
  refine gb (mkF m 1 #[vi 3] [(.int 3)]) (fun _ k => XS.iloadN X0.here hx rfl (hb hby d19_0) rfl k) ?_
  refine gb (mkF m 12 #[vi 3] []) (fun _ k => XS.ifYes X0.here hx rfl (pc0 := 1) (pc' := 12) rfl (hb hby d19_1) rfl ((if0 _ _).trans (flt (by decide : ¬ ((3 : Int32) < (0 : Int32)))).2.1) (by decide) (by decide) k) ?_
  refine gb (mkF m 13 #[vi 3] [(.int 3)]) (fun _ k => XS.iloadN X0.here hx rfl (hb hby d19_12) rfl k) ?_
  refine gb (mkF m 15 #[vi 3] [(.int 1073741823), (.int 3)]) (X0.ldcInt hx hown (mvT hZ (hW hw 86 rfl)) (g := (mkF m 13 #[vi 3] [(.int 3)])) rfl (hb hby d19_13)) ?_
  refine gb (mkF m 55 #[vi 3] []) (fun _ k => XS.icmpYes X0.here hx rfl (pc0 := 15) (pc' := 55) rfl (hb hby d19_15) rfl (tlt (by decide : (3 : Int32) < (1073741823 : Int32))).1 (by decide) (by decide) k) ?_
  refine gb (mkF m 56 #[vi 3] [(.int 3)]) (fun _ k => XS.iloadN X0.here hx rfl (hb hby d19_55) rfl k) ?_
  refine gb (mkF m 57 #[vi 3] [(.int 1), (.int 3)]) (fun _ k => XS.iconst X0.here hx rfl (hb hby d19_56) k) ?_
  refine gb (mkF m 58 #[vi 3] [(.int ((3 : Int32) <<< ((1 : Int32) &&& 31)))]) (fun _ k => XS.ishl X0.here hx rfl (hb hby d19_57) rfl k) ?_
  exact Gl.outI X0 hx hk Bd.returns (hb hby d19_58) ⟨(congrArg (fun z => some (Value.int z)) (by decide : ((3 : Int32) <<< ((1 : Int32) &&& 31)) = (6 : Int32))), N0, e0⟩ (by decide) (by decide)
theorem ef183 (m : MethodId) (x0 : Int32) : entryFrame m #[(.int x0)] 1 = mkF m 0 #[.val (.int x0)] [] := by first | (simp [entryFrame, mkF, argsToLocals, Value.category]; done) | rfl
def Q183 (Z : State) (G1 : Int32) (w_sf : Value) (h0 : Heap) (n0 : Nat) (v : Option Value) (h : Heap) (L : List Loc) : Prop := ∃ (b : Addr), ∃ (kb : ClassId), v = some (.ref b) ∧ Fr n0 L ∧ Keep h0 h [] ∧ Arv Z h b kb .byte (6 : Int32) [(.int 0), (.int 0), (.int 0), (.int 0), (.int 0), (.int 0)] (.int 0) ∧ (h0.size ≤ b)
theorem rm183 (l : Launch) (Z : State) (a0' : Array Value) (hw : ∀ d ∈ tables_1, d.before a0' Z = true) (ws : List Jvm.Cond) (G1 : Int32) (w_sf : Value) (h0 : Heap) (n0 : Nat) (O : Old Z n0 h0) (W : Wd Z G1 w_sf) :
    MetFree l mq14 (head1 (Jvm.Cond.code mq14 jdk_52_method_2_code 1 (some (.array .byte)) :: ws) ({ frames := 1, cells := 1, slots := 6, locals := 12 } : Room)) (fun a U => a = #[(.int 3)] ∧ Z.Warmed39 U.vm ∧ U.heap = h0) (fun _ _ _ _ _ => True) (fun _ U o U' => ∃ v L, o = .returned v ∧ Q183 Z  G1 w_sf h0 n0 v U'.heap L ∧ FrameEnd U o U' L ({ frames := 1, cells := 1, slots := 6, locals := 12 } : Room).cells ({ frames := 1, cells := 1, slots := 6, locals := 12 } : Room).slots) := by
  refine MetFree.of_bodySF (plainFor_of_name pn3) hisR ?_
  intro p e s m args below meth c s₁ Bd hml0 hP hK
  obtain ⟨rfl, hZ, hh⟩ := hP
  have hx := Bd.exec
  have hby := Bd.bytes
  have hml : c.maxLocals = 1 := hml0
  have hown : s.vm.findClass "java/lang/StringUTF16" = some m.cls := findClass_of_methodNamed Bd.named
  have hnm := (name_of_methodNamed Bd.named Bd.method).1
  have hk := Bd.notSynchronized
  have X0 : Stand p l e ({ frames := 1, cells := 1, slots := 6, locals := 12 } : Room) s m #[(.int 3)] below meth c s₁ [] 0 0 := Stand.of_body Bd
  have hh2 := hh
  have e0 : s₁.heap = h0 := by rw [← hh, Bd.state]; rfl
  have N0 := Fr.nil n0
  show Gl p e below (Pos 1 6 (Q183 Z  G1 w_sf h0 n0) s) s₁ _
  refine Gl.cast (ef183 m (3 : Int32)) ?_
  refine gb (mkF m 1 #[vi 3] [(.int 3)]) (fun _ k => XS.iloadN X0.here hx rfl (hb hby d18_0) rfl k) ?_
  obtain ⟨_, _, ⟨T1, L1, k1, n1⟩, -, X1, ⟨Lc1, hQ1, l1, y1, z1⟩, st1⟩ := callS X0 hx (y := mq13) hown (mvT hZ (hW hw 83 rfl)) (mvT hZ (hW hw 84 rfl)) (mvT hZ (hW hw 47 rfl)) (mvT hZ (hW hw 85 rfl)) (by decide) (backOf (W := 0) (rm193 l Z a0' hw []  G1 w_sf h0 n0 O W ) hZ (hW hw 85 rfl) (hW hw 47 rfl) (by decide) (by decide)) (g := (mkF m 1 #[vi 3] [(.int 3)])) rfl (by rw [hml]; rfl) (argsL := [(.int 3)]) (rest := []) (lenOf pd167 rfl) rfl (Nat.le_of_eq rfl) (hb hby d18_1) (fun _ _ => ⟨rfl, e0, (by decide : 0 + 0 ≤ _), (by decide : 0 + 0 ≤ _)⟩)
  dsimp only [Pt.U, Pt.locs, Pt.cells, Pt.slots] at X1 l1 y1 z1 st1 hQ1
  subst l1 y1 z1
  obtain ⟨rfl, N1q, e1⟩ := hQ1
  have N1 := Fr.app N0 N1q
  refine gb (mkF m 4 #[vi 3] [(.int 6)]) st1 ?_
  obtain ⟨T2, h2, k2, X2, e2, E2, A2, st2⟩ := newP X1 hx hZ (hW hw 20 rfl) e1 (g := (mkF m 4 #[vi 3] [(.int 6)])) rfl (hb hby d18_4) rfl (by decide) (cap := 6) (by decide) (by decide) (by decide) (by decide)
  obtain ⟨b2, g2⟩ : ∃ z, z = (h0).size := ⟨_, rfl⟩
  rw [← g2] at A2 st2
  have gb2 : n0 ≤ b2 := Nat.le_trans (Nat.le_trans (Nat.le_of_eq O.1.symm) O.2.1) (Nat.le_of_eq g2.symm)
  have sb2 : h0.size ≤ b2 := Nat.le_trans (Keep.refl h0 []).1 (Nat.le_of_eq g2.symm)
  have V2 : Arv Z h2 b2 k2 .byte (6 : Int32) [(.int 0), (.int 0), (.int 0), (.int 0), (.int 0), (.int 0)] (.int 0) := (Arv.new A2 (by decide)).pad (pad_rep [] (.int 0) 6)
  refine gb (mkF m 6 #[vi 3] [(.ref b2)]) st2 ?_
  have K3 := ((Keep.refl h0 []).ext E2)
  exact Gl.outA X2 hx hk Bd.returns rfl rfl (hb hby d18_6) (Eq.mpr (congrArg (fun hh => Q183 Z  G1 w_sf h0 n0 _ hh _) e2) (show Q183 Z  G1 w_sf h0 n0 _ h2 _ from ⟨b2, k2, rfl, N1, K3, V2, sb2⟩)) (by decide) (by decide)
theorem ef173 (m : MethodId) (x0 : Addr) (x1 : Int32) (x2 : Int32) : entryFrame m #[(.ref x0), (.int x1), (.int x2)] 5 = mkF m 0 #[.val (.ref x0), .val (.int x1), .val (.int x2), .unset, .unset] [] := by first | (simp [entryFrame, mkF, argsToLocals, Value.category]; done) | rfl
def Q173 (Z : State) (a0 : Addr) (ka : ClassId) (x0 : Int32) (x1 : Int32) (x2 : Int32) (G1 : Int32) (w_sf : Value) (h0 : Heap) (n0 : Nat) (v : Option Value) (h : Heap) (L : List Loc) : Prop := ∃ (b : Addr), ∃ (kb : ClassId), v = some (.ref b) ∧ Fr n0 L ∧ Keep h0 h [] ∧ Arv Z h b kb .byte (6 : Int32) [(.int (bA x0)), (.int (bB x0)), (.int (bA x1)), (.int (bB x1)), (.int (bA x2)), (.int (bB x2))] (.int 0) ∧ (h0.size ≤ b)
theorem rm173 (l : Launch) (Z : State) (a0' : Array Value) (hw : ∀ d ∈ tables_1, d.before a0' Z = true) (ws : List Jvm.Cond) (a0 : Addr) (ka : ClassId) (x0 : Int32) (x1 : Int32) (x2 : Int32) (G1 : Int32) (w_sf : Value) (h0 : Heap) (n0 : Nat) (O : Old Z n0 h0) (W : Wd Z G1 w_sf) (pf0 : Arv Z h0 a0 ka .char (3 : Int32) [(.int x0), (.int x1), (.int x2)] (.int 0)) :
    MetFree l mq15 (head1 (Jvm.Cond.code mq15 jdk_52_method_14_code 5 (some (.array .byte)) :: ws) ({ frames := 2, cells := 1, slots := 6, locals := 24 } : Room)) (fun a U => a = #[(.ref a0), (.int 0), (.int 3)] ∧ Z.Warmed39 U.vm ∧ U.heap = h0) (fun _ _ _ _ _ => True) (fun _ U o U' => ∃ v L, o = .returned v ∧ Q173 Z a0 ka x0 x1 x2 G1 w_sf h0 n0 v U'.heap L ∧ FrameEnd U o U' L ({ frames := 2, cells := 1, slots := 6, locals := 24 } : Room).cells ({ frames := 2, cells := 1, slots := 6, locals := 24 } : Room).slots) := by
  refine MetFree.of_bodySF (plainFor_of_name pn3) hisR ?_
  intro p e s m args below meth c s₁ Bd hml0 hP hK
  obtain ⟨rfl, hZ, hh⟩ := hP
  have hx := Bd.exec
  have hby := Bd.bytes
  have hml : c.maxLocals = 5 := hml0
  have hown : s.vm.findClass "java/lang/StringUTF16" = some m.cls := findClass_of_methodNamed Bd.named
  have hnm := (name_of_methodNamed Bd.named Bd.method).1
  have hk := Bd.notSynchronized
  have X0 : Stand p l e ({ frames := 2, cells := 1, slots := 6, locals := 24 } : Room) s m #[(.ref a0), (.int 0), (.int 3)] below meth c s₁ [] 0 0 := Stand.of_body Bd
  have hh2 := hh
  have e0 : s₁.heap = h0 := by rw [← hh, Bd.state]; rfl
  have N0 := Fr.nil n0
  show Gl p e below (Pos 1 6 (Q173 Z a0 ka x0 x1 x2 G1 w_sf h0 n0) s) s₁ _
  refine Gl.cast (ef173 m a0 (0 : Int32) (3 : Int32)) ?_
  refine gb (mkF m 1 #[vr a0, vi 0, vi 3, .unset, .unset] [(.int 3)]) (fun _ k => XS.iloadN X0.here hx rfl (hb hby d17_0) rfl k) ?_
  obtain ⟨_, _, ⟨T1, L1, k1, n1⟩, -, X1, ⟨Lc1, hQ1, l1, y1, z1⟩, st1⟩ := callS X0 hx (y := mq14) hown (mvT hZ (hW hw 80 rfl)) (mvT hZ (hW hw 81 rfl)) (mvT hZ (hW hw 47 rfl)) (mvT hZ (hW hw 82 rfl)) (by decide) (backOf (W := 0) (rm183 l Z a0' hw []  G1 w_sf h0 n0 O W ) hZ (hW hw 82 rfl) (hW hw 47 rfl) (by decide) (by decide)) (g := (mkF m 1 #[vr a0, vi 0, vi 3, .unset, .unset] [(.int 3)])) rfl (by rw [hml]; rfl) (argsL := [(.int 3)]) (rest := []) (lenOf pd187 rfl) rfl (Nat.le_of_eq rfl) (hb hby d17_1) (fun _ _ => ⟨rfl, e0, (by decide : 0 + 1 ≤ _), (by decide : 0 + 6 ≤ _)⟩)
  dsimp only [Pt.U, Pt.locs, Pt.cells, Pt.slots] at X1 l1 y1 z1 st1 hQ1
  subst l1 y1 z1
  obtain ⟨b_1, kb_1, rfl, N1q, Kc1, fc1_0, fc1_1⟩ := hQ1
  have N1 := Fr.app N0 N1q
  have nb2 : a0 ≠ b_1 := Nat.ne_of_lt (Nat.lt_of_lt_of_le pf0.lt fc1_1)
  refine gb (mkF m 4 #[vr a0, vi 0, vi 3, .unset, .unset] [(.ref b_1)]) st1 ?_
  refine gb (mkF m 5 #[vr a0, vi 0, vi 3, vr b_1, .unset] []) (fun _ k => XS.astoreN X1.here hx rfl (hb hby d17_4) rfl rfl (l' := #[vr a0, vi 0, vi 3, vr b_1, .unset]) rfl k) ?_
  refine gb (mkF m 6 #[vr a0, vi 0, vi 3, vr b_1, .unset] [(.int 0)]) (fun _ k => XS.iconst X1.here hx rfl (hb hby d17_5) k) ?_
  refine gb (mkF m 8 #[vr a0, vi 0, vi 3, vr b_1, vi 0] []) (fun _ k => XS.istore X1.here hx rfl (hb hby d17_6) rfl (l' := #[vr a0, vi 0, vi 3, vr b_1, vi 0]) rfl k) ?_
  refine gb (mkF m 10 #[vr a0, vi 0, vi 3, vr b_1, vi 0] [(.int 0)]) (fun _ k => XS.iload X1.here hx rfl (hb hby d17_8) rfl k) ?_
  refine gb (mkF m 11 #[vr a0, vi 0, vi 3, vr b_1, vi 0] [(.int 3), (.int 0)]) (fun _ k => XS.iloadN X1.here hx rfl (hb hby d17_10) rfl k) ?_
  refine gb (mkF m 14 #[vr a0, vi 0, vi 3, vr b_1, vi 0] []) (fun _ k => XS.icmpNo X1.here hx rfl (hb hby d17_11) rfl (tlt (by decide : (0 : Int32) < (3 : Int32))).2.1 k) ?_
  refine gb (mkF m 15 #[vr a0, vi 0, vi 3, vr b_1, vi 0] [(.ref b_1)]) (fun _ k => XS.aloadN X1.here hx rfl (hb hby d17_14) rfl rfl k) ?_
  refine gb (mkF m 17 #[vr a0, vi 0, vi 3, vr b_1, vi 0] [(.int 0), (.ref b_1)]) (fun _ k => XS.iload X1.here hx rfl (hb hby d17_15) rfl k) ?_
  refine gb (mkF m 18 #[vr a0, vi 0, vi 3, vr b_1, vi 0] [(.ref a0), (.int 0), (.ref b_1)]) (fun _ k => XS.aloadN X1.here hx rfl (hb hby d17_17) rfl rfl k) ?_
  refine gb (mkF m 19 #[vr a0, vi 0, vi 3, vr b_1, vi 0] [(.int 0), (.ref a0), (.int 0), (.ref b_1)]) (fun _ k => XS.iloadN X1.here hx rfl (hb hby d17_18) rfl k) ?_
  have f3 := (Arv.keep pf0 Kc1 nin0)
  obtain ⟨cl4, Ar4, qa4, Sa4, Na4, Ha4, Ga4⟩ := id f3
  have hin5 : ¬ ((0 : Int32) < 0 ∨ cl4.slots.size ≤ ((0 : Int32)).toNatClampNeg) := inb_of Sa4 ⟨by decide, by decide⟩
  refine gb (mkF m 20 #[vr a0, vi 0, vi 3, vr b_1, vi 0] [(.int x0), (.int 0), (.ref b_1)]) (X1.caload hx (j := (0 : Int32)) (v := (.int x0)) Ar4.1 (State.isArrayOf_alike hZ.alike Ar4.2.1) Ar4.2.2 hin5 (Has.at Ha4 hin5 rfl) (g := (mkF m 19 #[vr a0, vi 0, vi 3, vr b_1, vi 0] [(.int 0), (.ref a0), (.int 0), (.ref b_1)])) rfl rfl (hb hby d17_19)) ?_
  have O7 := (O.keep Kc1 all0)
  obtain ⟨_, _, ⟨T6, L6, k6, n6⟩, -, X6, ⟨Lc6, hQ6, l6, y6, z6⟩, st6⟩ := callS X1 hx (y := mq12) hown (mvT hZ (hW hw 87 rfl)) (mvT hZ (hW hw 88 rfl)) (mvT hZ (hW hw 47 rfl)) (mvT hZ (hW hw 89 rfl)) (by decide) (backOf (W := 0) (rm20 l Z a0' hw [] b_1 (0 : Int32) x0 kb_1 [(.int 0), (.int 0), (.int 0), (.int 0), (.int 0), (.int 0)] (6 : Int32) G1 w_sf T1.heap n0 O7 W fc1_0 (Nat.le_trans (Nat.le_trans (Nat.le_of_eq O.1.symm) O.2.1) fc1_1) (by decide) (by decide) (Nat.lt_of_lt_of_eq (by decide : ((0 : Int32) <<< ((1 : Int32) &&& 31)).toNatClampNeg < 6) rfl) (Nat.lt_of_lt_of_eq (by decide : (((0 : Int32) <<< ((1 : Int32) &&& 31)) + (1 : Int32)).toNatClampNeg < 6) rfl)) hZ (hW hw 89 rfl) (hW hw 47 rfl) (by decide) (by decide)) (g := (mkF m 20 #[vr a0, vi 0, vi 3, vr b_1, vi 0] [(.int x0), (.int 0), (.ref b_1)])) rfl (by rw [hml]; rfl) (argsL := [(.ref b_1), (.int 0), (.int x0)]) (rest := []) (lenOf pd188 rfl) rfl (Nat.le_of_eq rfl) (hb hby d17_20) (fun _ _ => ⟨rfl, rfl, (by decide : 1 + 0 ≤ _), (by decide : 6 + 0 ≤ _)⟩)
  dsimp only [Pt.U, Pt.locs, Pt.cells, Pt.slots] at X6 l6 y6 z6 st6 hQ6
  subst l6 y6 z6
  obtain ⟨rfl, N6q, Kc6, fc6_0⟩ := hQ6
  have N6 := Fr.app N1 N6q
  have fr8 : Arv Z T6.heap b_1 kb_1 .byte (6 : Int32) [(.int (bA x0)), (.int (bB x0)), (.int 0), (.int 0), (.int 0), (.int 0)] (.int 0) := arv_at fc6_0 (by decide : (((0 : Int32) <<< ((1 : Int32) &&& 31))).toNatClampNeg = 0) (by decide : ((((0 : Int32) <<< ((1 : Int32) &&& 31)) + (1 : Int32))).toNatClampNeg = 1)
  refine gb (mkF m 23 #[vr a0, vi 0, vi 3, vr b_1, vi 0] []) st6 ?_
  refine gb (mkF m 26 #[vr a0, vi 1, vi 3, vr b_1, vi 0] []) (fun _ k => XS.iinc X6.here hx rfl (hb hby d17_23) rfl (l' := #[vr a0, vi 1, vi 3, vr b_1, vi 0]) rfl k) ?_
  refine gb (mkF m 29 #[vr a0, vi 1, vi 3, vr b_1, vi 1] []) (fun _ k => XS.iinc X6.here hx rfl (hb hby d17_26) rfl (l' := #[vr a0, vi 1, vi 3, vr b_1, vi 1]) rfl k) ?_
  refine gb (mkF m 8 #[vr a0, vi 1, vi 3, vr b_1, vi 1] []) (fun _ k => XS.goto X6.here hx rfl (pc0 := 29) (pc' := 8) rfl (hb hby d17_29) (by decide) (by decide) k) ?_
  refine gb (mkF m 10 #[vr a0, vi 1, vi 3, vr b_1, vi 1] [(.int 1)]) (fun _ k => XS.iload X6.here hx rfl (hb hby d17_8) rfl k) ?_
  refine gb (mkF m 11 #[vr a0, vi 1, vi 3, vr b_1, vi 1] [(.int 3), (.int 1)]) (fun _ k => XS.iloadN X6.here hx rfl (hb hby d17_10) rfl k) ?_
  refine gb (mkF m 14 #[vr a0, vi 1, vi 3, vr b_1, vi 1] []) (fun _ k => XS.icmpNo X6.here hx rfl (hb hby d17_11) rfl (tlt (by decide : (1 : Int32) < (3 : Int32))).2.1 k) ?_
  refine gb (mkF m 15 #[vr a0, vi 1, vi 3, vr b_1, vi 1] [(.ref b_1)]) (fun _ k => XS.aloadN X6.here hx rfl (hb hby d17_14) rfl rfl k) ?_
  refine gb (mkF m 17 #[vr a0, vi 1, vi 3, vr b_1, vi 1] [(.int 1), (.ref b_1)]) (fun _ k => XS.iload X6.here hx rfl (hb hby d17_15) rfl k) ?_
  refine gb (mkF m 18 #[vr a0, vi 1, vi 3, vr b_1, vi 1] [(.ref a0), (.int 1), (.ref b_1)]) (fun _ k => XS.aloadN X6.here hx rfl (hb hby d17_17) rfl rfl k) ?_
  refine gb (mkF m 19 #[vr a0, vi 1, vi 3, vr b_1, vi 1] [(.int 1), (.ref a0), (.int 1), (.ref b_1)]) (fun _ k => XS.iloadN X6.here hx rfl (hb hby d17_18) rfl k) ?_
  have f9 := (Arv.keep f3 Kc6 (ninS nb2 nin0))
  obtain ⟨cl10, Ar10, qa10, Sa10, Na10, Ha10, Ga10⟩ := id f9
  have hin11 : ¬ ((1 : Int32) < 0 ∨ cl10.slots.size ≤ ((1 : Int32)).toNatClampNeg) := inb_of Sa10 ⟨by decide, by decide⟩
  refine gb (mkF m 20 #[vr a0, vi 1, vi 3, vr b_1, vi 1] [(.int x1), (.int 1), (.ref b_1)]) (X6.caload hx (j := (1 : Int32)) (v := (.int x1)) Ar10.1 (State.isArrayOf_alike hZ.alike Ar10.2.1) Ar10.2.2 hin11 (Has.at Ha10 hin11 (congrArg (fun k => List.getD ([(.int x0), (.int x1), (.int x2)] : List Value) k (.int 0)) (by decide : ((1 : Int32)).toNatClampNeg = 1))) (g := (mkF m 19 #[vr a0, vi 1, vi 3, vr b_1, vi 1] [(.int 1), (.ref a0), (.int 1), (.ref b_1)])) rfl rfl (hb hby d17_19)) ?_
  have O13 := (O7.keep Kc6 (allS (Nat.le_trans (Nat.le_trans (Nat.le_of_eq O.1.symm) O.2.1) fc1_1) all0))
  obtain ⟨_, _, ⟨T12, L12, k12, n12⟩, -, X12, ⟨Lc12, hQ12, l12, y12, z12⟩, st12⟩ := callS X6 hx (y := mq12) hown (mvT hZ (hW hw 87 rfl)) (mvT hZ (hW hw 88 rfl)) (mvT hZ (hW hw 47 rfl)) (mvT hZ (hW hw 89 rfl)) (by decide) (backOf (W := 0) (rm20 l Z a0' hw [] b_1 (1 : Int32) x1 kb_1 [(.int (bA x0)), (.int (bB x0)), (.int 0), (.int 0), (.int 0), (.int 0)] (6 : Int32) G1 w_sf T6.heap n0 O13 W fr8 (Nat.le_trans (Nat.le_trans (Nat.le_of_eq O.1.symm) O.2.1) fc1_1) (by decide) (by decide) (Nat.lt_of_lt_of_eq (by decide : ((1 : Int32) <<< ((1 : Int32) &&& 31)).toNatClampNeg < 6) rfl) (Nat.lt_of_lt_of_eq (by decide : (((1 : Int32) <<< ((1 : Int32) &&& 31)) + (1 : Int32)).toNatClampNeg < 6) rfl)) hZ (hW hw 89 rfl) (hW hw 47 rfl) (by decide) (by decide)) (g := (mkF m 20 #[vr a0, vi 1, vi 3, vr b_1, vi 1] [(.int x1), (.int 1), (.ref b_1)])) rfl (by rw [hml]; rfl) (argsL := [(.ref b_1), (.int 1), (.int x1)]) (rest := []) (lenOf pd188 rfl) rfl (Nat.le_of_eq rfl) (hb hby d17_20) (fun _ _ => ⟨rfl, rfl, (by decide : 1 + 0 ≤ _), (by decide : 6 + 0 ≤ _)⟩)
  dsimp only [Pt.U, Pt.locs, Pt.cells, Pt.slots] at X12 l12 y12 z12 st12 hQ12
  subst l12 y12 z12
  obtain ⟨rfl, N12q, Kc12, fc12_0⟩ := hQ12
  have N12 := Fr.app N6 N12q
  have fr14 : Arv Z T12.heap b_1 kb_1 .byte (6 : Int32) [(.int (bA x0)), (.int (bB x0)), (.int (bA x1)), (.int (bB x1)), (.int 0), (.int 0)] (.int 0) := arv_at fc12_0 (by decide : (((1 : Int32) <<< ((1 : Int32) &&& 31))).toNatClampNeg = 2) (by decide : ((((1 : Int32) <<< ((1 : Int32) &&& 31)) + (1 : Int32))).toNatClampNeg = 3)
  refine gb (mkF m 23 #[vr a0, vi 1, vi 3, vr b_1, vi 1] []) st12 ?_
  refine gb (mkF m 26 #[vr a0, vi 2, vi 3, vr b_1, vi 1] []) (fun _ k => XS.iinc X12.here hx rfl (hb hby d17_23) rfl (l' := #[vr a0, vi 2, vi 3, vr b_1, vi 1]) rfl k) ?_
  refine gb (mkF m 29 #[vr a0, vi 2, vi 3, vr b_1, vi 2] []) (fun _ k => XS.iinc X12.here hx rfl (hb hby d17_26) rfl (l' := #[vr a0, vi 2, vi 3, vr b_1, vi 2]) rfl k) ?_
  refine gb (mkF m 8 #[vr a0, vi 2, vi 3, vr b_1, vi 2] []) (fun _ k => XS.goto X12.here hx rfl (pc0 := 29) (pc' := 8) rfl (hb hby d17_29) (by decide) (by decide) k) ?_
  refine gb (mkF m 10 #[vr a0, vi 2, vi 3, vr b_1, vi 2] [(.int 2)]) (fun _ k => XS.iload X12.here hx rfl (hb hby d17_8) rfl k) ?_
  refine gb (mkF m 11 #[vr a0, vi 2, vi 3, vr b_1, vi 2] [(.int 3), (.int 2)]) (fun _ k => XS.iloadN X12.here hx rfl (hb hby d17_10) rfl k) ?_
  refine gb (mkF m 14 #[vr a0, vi 2, vi 3, vr b_1, vi 2] []) (fun _ k => XS.icmpNo X12.here hx rfl (hb hby d17_11) rfl (tlt (by decide : (2 : Int32) < (3 : Int32))).2.1 k) ?_
  refine gb (mkF m 15 #[vr a0, vi 2, vi 3, vr b_1, vi 2] [(.ref b_1)]) (fun _ k => XS.aloadN X12.here hx rfl (hb hby d17_14) rfl rfl k) ?_
  refine gb (mkF m 17 #[vr a0, vi 2, vi 3, vr b_1, vi 2] [(.int 2), (.ref b_1)]) (fun _ k => XS.iload X12.here hx rfl (hb hby d17_15) rfl k) ?_
  refine gb (mkF m 18 #[vr a0, vi 2, vi 3, vr b_1, vi 2] [(.ref a0), (.int 2), (.ref b_1)]) (fun _ k => XS.aloadN X12.here hx rfl (hb hby d17_17) rfl rfl k) ?_
  refine gb (mkF m 19 #[vr a0, vi 2, vi 3, vr b_1, vi 2] [(.int 2), (.ref a0), (.int 2), (.ref b_1)]) (fun _ k => XS.iloadN X12.here hx rfl (hb hby d17_18) rfl k) ?_
  have f15 := (Arv.keep f9 Kc12 (ninS nb2 nin0))
  obtain ⟨cl16, Ar16, qa16, Sa16, Na16, Ha16, Ga16⟩ := id f15
  have hin17 : ¬ ((2 : Int32) < 0 ∨ cl16.slots.size ≤ ((2 : Int32)).toNatClampNeg) := inb_of Sa16 ⟨by decide, by decide⟩
  refine gb (mkF m 20 #[vr a0, vi 2, vi 3, vr b_1, vi 2] [(.int x2), (.int 2), (.ref b_1)]) (X12.caload hx (j := (2 : Int32)) (v := (.int x2)) Ar16.1 (State.isArrayOf_alike hZ.alike Ar16.2.1) Ar16.2.2 hin17 (Has.at Ha16 hin17 (congrArg (fun k => List.getD ([(.int x0), (.int x1), (.int x2)] : List Value) k (.int 0)) (by decide : ((2 : Int32)).toNatClampNeg = 2))) (g := (mkF m 19 #[vr a0, vi 2, vi 3, vr b_1, vi 2] [(.int 2), (.ref a0), (.int 2), (.ref b_1)])) rfl rfl (hb hby d17_19)) ?_
  have O19 := (O13.keep Kc12 (allS (Nat.le_trans (Nat.le_trans (Nat.le_of_eq O.1.symm) O.2.1) fc1_1) all0))
  obtain ⟨_, _, ⟨T18, L18, k18, n18⟩, -, X18, ⟨Lc18, hQ18, l18, y18, z18⟩, st18⟩ := callS X12 hx (y := mq12) hown (mvT hZ (hW hw 87 rfl)) (mvT hZ (hW hw 88 rfl)) (mvT hZ (hW hw 47 rfl)) (mvT hZ (hW hw 89 rfl)) (by decide) (backOf (W := 0) (rm20 l Z a0' hw [] b_1 (2 : Int32) x2 kb_1 [(.int (bA x0)), (.int (bB x0)), (.int (bA x1)), (.int (bB x1)), (.int 0), (.int 0)] (6 : Int32) G1 w_sf T12.heap n0 O19 W fr14 (Nat.le_trans (Nat.le_trans (Nat.le_of_eq O.1.symm) O.2.1) fc1_1) (by decide) (by decide) (Nat.lt_of_lt_of_eq (by decide : ((2 : Int32) <<< ((1 : Int32) &&& 31)).toNatClampNeg < 6) rfl) (Nat.lt_of_lt_of_eq (by decide : (((2 : Int32) <<< ((1 : Int32) &&& 31)) + (1 : Int32)).toNatClampNeg < 6) rfl)) hZ (hW hw 89 rfl) (hW hw 47 rfl) (by decide) (by decide)) (g := (mkF m 20 #[vr a0, vi 2, vi 3, vr b_1, vi 2] [(.int x2), (.int 2), (.ref b_1)])) rfl (by rw [hml]; rfl) (argsL := [(.ref b_1), (.int 2), (.int x2)]) (rest := []) (lenOf pd188 rfl) rfl (Nat.le_of_eq rfl) (hb hby d17_20) (fun _ _ => ⟨rfl, rfl, (by decide : 1 + 0 ≤ _), (by decide : 6 + 0 ≤ _)⟩)
  dsimp only [Pt.U, Pt.locs, Pt.cells, Pt.slots] at X18 l18 y18 z18 st18 hQ18
  subst l18 y18 z18
  obtain ⟨rfl, N18q, Kc18, fc18_0⟩ := hQ18
  have N18 := Fr.app N12 N18q
  have fr20 : Arv Z T18.heap b_1 kb_1 .byte (6 : Int32) [(.int (bA x0)), (.int (bB x0)), (.int (bA x1)), (.int (bB x1)), (.int (bA x2)), (.int (bB x2))] (.int 0) := arv_at fc18_0 (by decide : (((2 : Int32) <<< ((1 : Int32) &&& 31))).toNatClampNeg = 4) (by decide : ((((2 : Int32) <<< ((1 : Int32) &&& 31)) + (1 : Int32))).toNatClampNeg = 5)
  refine gb (mkF m 23 #[vr a0, vi 2, vi 3, vr b_1, vi 2] []) st18 ?_
  refine gb (mkF m 26 #[vr a0, vi 3, vi 3, vr b_1, vi 2] []) (fun _ k => XS.iinc X18.here hx rfl (hb hby d17_23) rfl (l' := #[vr a0, vi 3, vi 3, vr b_1, vi 2]) rfl k) ?_
  refine gb (mkF m 29 #[vr a0, vi 3, vi 3, vr b_1, vi 3] []) (fun _ k => XS.iinc X18.here hx rfl (hb hby d17_26) rfl (l' := #[vr a0, vi 3, vi 3, vr b_1, vi 3]) rfl k) ?_
  refine gb (mkF m 8 #[vr a0, vi 3, vi 3, vr b_1, vi 3] []) (fun _ k => XS.goto X18.here hx rfl (pc0 := 29) (pc' := 8) rfl (hb hby d17_29) (by decide) (by decide) k) ?_
  refine gb (mkF m 10 #[vr a0, vi 3, vi 3, vr b_1, vi 3] [(.int 3)]) (fun _ k => XS.iload X18.here hx rfl (hb hby d17_8) rfl k) ?_
  refine gb (mkF m 11 #[vr a0, vi 3, vi 3, vr b_1, vi 3] [(.int 3), (.int 3)]) (fun _ k => XS.iloadN X18.here hx rfl (hb hby d17_10) rfl k) ?_
  refine gb (mkF m 32 #[vr a0, vi 3, vi 3, vr b_1, vi 3] []) (fun _ k => XS.icmpYes X18.here hx rfl (pc0 := 11) (pc' := 32) rfl (hb hby d17_11) rfl (flt (by decide : ¬ ((3 : Int32) < (3 : Int32)))).2.1 (by decide) (by decide) k) ?_
  refine gb (mkF m 33 #[vr a0, vi 3, vi 3, vr b_1, vi 3] [(.ref b_1)]) (fun _ k => XS.aloadN X18.here hx rfl (hb hby d17_32) rfl rfl k) ?_
  have K21 := (((((Keep.refl h0 []).trans Kc1 all0).trans Kc6 (allS (Or.inr (Nat.le_trans (Keep.refl h0 []).1 fc1_1)) all0)).trans Kc12 (allS (Or.inr (Nat.le_trans (Keep.refl h0 []).1 fc1_1)) all0)).trans Kc18 (allS (Or.inr (Nat.le_trans (Keep.refl h0 []).1 fc1_1)) all0))
  exact Gl.outA X18 hx hk Bd.returns rfl rfl (hb hby d17_33) ⟨b_1, kb_1, rfl, N18, K21, fr20, (Nat.le_trans (Keep.refl h0 []).1 fc1_1)⟩ (by decide) (by decide)
theorem ef194 (m : MethodId) (x0 : Int32) : entryFrame m #[(.int x0)] 1 = mkF m 0 #[.val (.int x0)] [] := by first | (simp [entryFrame, mkF, argsToLocals, Value.category]; done) | rfl
def Q194 (Z : State) (G1 : Int32) (w_sf : Value) (h0 : Heap) (n0 : Nat) (v : Option Value) (h : Heap) (L : List Loc) : Prop := v = some (.int 8) ∧ Fr n0 L ∧ h = h0
theorem rm194 (l : Launch) (Z : State) (a0' : Array Value) (hw : ∀ d ∈ tables_1, d.before a0' Z = true) (ws : List Jvm.Cond) (G1 : Int32) (w_sf : Value) (h0 : Heap) (n0 : Nat) (O : Old Z n0 h0) (W : Wd Z G1 w_sf) :
    MetFree l mq13 (head1 (Jvm.Cond.code mq13 jdk_52_method_3_code 1 (some .int) :: ws) ({ frames := 0, cells := 0, slots := 0, locals := 0 } : Room)) (fun a U => a = #[(.int 4)] ∧ Z.Warmed39 U.vm ∧ U.heap = h0) (fun _ _ _ _ _ => True) (fun _ U o U' => ∃ v L, o = .returned v ∧ Q194 Z  G1 w_sf h0 n0 v U'.heap L ∧ FrameEnd U o U' L ({ frames := 0, cells := 0, slots := 0, locals := 0 } : Room).cells ({ frames := 0, cells := 0, slots := 0, locals := 0 } : Room).slots) := by
  refine MetFree.of_bodySF (plainFor_of_name pn3) hisR ?_
  intro p e s m args below meth c s₁ Bd hml0 hP hK
  obtain ⟨rfl, hZ, hh⟩ := hP
  have hx := Bd.exec
  have hby := Bd.bytes
  have hml : c.maxLocals = 1 := hml0
  have hown : s.vm.findClass "java/lang/StringUTF16" = some m.cls := findClass_of_methodNamed Bd.named
  have hnm := (name_of_methodNamed Bd.named Bd.method).1
  have hk := Bd.notSynchronized
  have X0 : Stand p l e ({ frames := 0, cells := 0, slots := 0, locals := 0 } : Room) s m #[(.int 4)] below meth c s₁ [] 0 0 := Stand.of_body Bd
  have hh2 := hh
  have e0 : s₁.heap = h0 := by rw [← hh, Bd.state]; rfl
  have N0 := Fr.nil n0
  show Gl p e below (Pos 0 0 (Q194 Z  G1 w_sf h0 n0) s) s₁ _
  refine Gl.cast (ef194 m (4 : Int32)) ?_
  refine gb (mkF m 1 #[vi 4] [(.int 4)]) (fun _ k => XS.iloadN X0.here hx rfl (hb hby d19_0) rfl k) ?_
  refine gb (mkF m 12 #[vi 4] []) (fun _ k => XS.ifYes X0.here hx rfl (pc0 := 1) (pc' := 12) rfl (hb hby d19_1) rfl ((if0 _ _).trans (flt (by decide : ¬ ((4 : Int32) < (0 : Int32)))).2.1) (by decide) (by decide) k) ?_
  refine gb (mkF m 13 #[vi 4] [(.int 4)]) (fun _ k => XS.iloadN X0.here hx rfl (hb hby d19_12) rfl k) ?_
  refine gb (mkF m 15 #[vi 4] [(.int 1073741823), (.int 4)]) (X0.ldcInt hx hown (mvT hZ (hW hw 86 rfl)) (g := (mkF m 13 #[vi 4] [(.int 4)])) rfl (hb hby d19_13)) ?_
  refine gb (mkF m 55 #[vi 4] []) (fun _ k => XS.icmpYes X0.here hx rfl (pc0 := 15) (pc' := 55) rfl (hb hby d19_15) rfl (tlt (by decide : (4 : Int32) < (1073741823 : Int32))).1 (by decide) (by decide) k) ?_
  refine gb (mkF m 56 #[vi 4] [(.int 4)]) (fun _ k => XS.iloadN X0.here hx rfl (hb hby d19_55) rfl k) ?_
  refine gb (mkF m 57 #[vi 4] [(.int 1), (.int 4)]) (fun _ k => XS.iconst X0.here hx rfl (hb hby d19_56) k) ?_
  refine gb (mkF m 58 #[vi 4] [(.int ((4 : Int32) <<< ((1 : Int32) &&& 31)))]) (fun _ k => XS.ishl X0.here hx rfl (hb hby d19_57) rfl k) ?_
  exact Gl.outI X0 hx hk Bd.returns (hb hby d19_58) ⟨(congrArg (fun z => some (Value.int z)) (by decide : ((4 : Int32) <<< ((1 : Int32) &&& 31)) = (8 : Int32))), N0, e0⟩ (by decide) (by decide)
theorem ef184 (m : MethodId) (x0 : Int32) : entryFrame m #[(.int x0)] 1 = mkF m 0 #[.val (.int x0)] [] := by first | (simp [entryFrame, mkF, argsToLocals, Value.category]; done) | rfl
def Q184 (Z : State) (G1 : Int32) (w_sf : Value) (h0 : Heap) (n0 : Nat) (v : Option Value) (h : Heap) (L : List Loc) : Prop := ∃ (b : Addr), ∃ (kb : ClassId), v = some (.ref b) ∧ Fr n0 L ∧ Keep h0 h [] ∧ Arv Z h b kb .byte (8 : Int32) [(.int 0), (.int 0), (.int 0), (.int 0), (.int 0), (.int 0), (.int 0), (.int 0)] (.int 0) ∧ (h0.size ≤ b)
theorem rm184 (l : Launch) (Z : State) (a0' : Array Value) (hw : ∀ d ∈ tables_1, d.before a0' Z = true) (ws : List Jvm.Cond) (G1 : Int32) (w_sf : Value) (h0 : Heap) (n0 : Nat) (O : Old Z n0 h0) (W : Wd Z G1 w_sf) :
    MetFree l mq14 (head1 (Jvm.Cond.code mq14 jdk_52_method_2_code 1 (some (.array .byte)) :: ws) ({ frames := 1, cells := 1, slots := 8, locals := 12 } : Room)) (fun a U => a = #[(.int 4)] ∧ Z.Warmed39 U.vm ∧ U.heap = h0) (fun _ _ _ _ _ => True) (fun _ U o U' => ∃ v L, o = .returned v ∧ Q184 Z  G1 w_sf h0 n0 v U'.heap L ∧ FrameEnd U o U' L ({ frames := 1, cells := 1, slots := 8, locals := 12 } : Room).cells ({ frames := 1, cells := 1, slots := 8, locals := 12 } : Room).slots) := by
  refine MetFree.of_bodySF (plainFor_of_name pn3) hisR ?_
  intro p e s m args below meth c s₁ Bd hml0 hP hK
  obtain ⟨rfl, hZ, hh⟩ := hP
  have hx := Bd.exec
  have hby := Bd.bytes
  have hml : c.maxLocals = 1 := hml0
  have hown : s.vm.findClass "java/lang/StringUTF16" = some m.cls := findClass_of_methodNamed Bd.named
  have hnm := (name_of_methodNamed Bd.named Bd.method).1
  have hk := Bd.notSynchronized
  have X0 : Stand p l e ({ frames := 1, cells := 1, slots := 8, locals := 12 } : Room) s m #[(.int 4)] below meth c s₁ [] 0 0 := Stand.of_body Bd
  have hh2 := hh
  have e0 : s₁.heap = h0 := by rw [← hh, Bd.state]; rfl
  have N0 := Fr.nil n0
  show Gl p e below (Pos 1 8 (Q184 Z  G1 w_sf h0 n0) s) s₁ _
  refine Gl.cast (ef184 m (4 : Int32)) ?_
  refine gb (mkF m 1 #[vi 4] [(.int 4)]) (fun _ k => XS.iloadN X0.here hx rfl (hb hby d18_0) rfl k) ?_
  obtain ⟨_, _, ⟨T1, L1, k1, n1⟩, -, X1, ⟨Lc1, hQ1, l1, y1, z1⟩, st1⟩ := callS X0 hx (y := mq13) hown (mvT hZ (hW hw 83 rfl)) (mvT hZ (hW hw 84 rfl)) (mvT hZ (hW hw 47 rfl)) (mvT hZ (hW hw 85 rfl)) (by decide) (backOf (W := 0) (rm194 l Z a0' hw []  G1 w_sf h0 n0 O W ) hZ (hW hw 85 rfl) (hW hw 47 rfl) (by decide) (by decide)) (g := (mkF m 1 #[vi 4] [(.int 4)])) rfl (by rw [hml]; rfl) (argsL := [(.int 4)]) (rest := []) (lenOf pd167 rfl) rfl (Nat.le_of_eq rfl) (hb hby d18_1) (fun _ _ => ⟨rfl, e0, (by decide : 0 + 0 ≤ _), (by decide : 0 + 0 ≤ _)⟩)
  dsimp only [Pt.U, Pt.locs, Pt.cells, Pt.slots] at X1 l1 y1 z1 st1 hQ1
  subst l1 y1 z1
  obtain ⟨rfl, N1q, e1⟩ := hQ1
  have N1 := Fr.app N0 N1q
  refine gb (mkF m 4 #[vi 4] [(.int 8)]) st1 ?_
  obtain ⟨T2, h2, k2, X2, e2, E2, A2, st2⟩ := newP X1 hx hZ (hW hw 20 rfl) e1 (g := (mkF m 4 #[vi 4] [(.int 8)])) rfl (hb hby d18_4) rfl (by decide) (cap := 8) (by decide) (by decide) (by decide) (by decide)
  obtain ⟨b2, g2⟩ : ∃ z, z = (h0).size := ⟨_, rfl⟩
  rw [← g2] at A2 st2
  have gb2 : n0 ≤ b2 := Nat.le_trans (Nat.le_trans (Nat.le_of_eq O.1.symm) O.2.1) (Nat.le_of_eq g2.symm)
  have sb2 : h0.size ≤ b2 := Nat.le_trans (Keep.refl h0 []).1 (Nat.le_of_eq g2.symm)
  have V2 : Arv Z h2 b2 k2 .byte (8 : Int32) [(.int 0), (.int 0), (.int 0), (.int 0), (.int 0), (.int 0), (.int 0), (.int 0)] (.int 0) := (Arv.new A2 (by decide)).pad (pad_rep [] (.int 0) 8)
  refine gb (mkF m 6 #[vi 4] [(.ref b2)]) st2 ?_
  have K3 := ((Keep.refl h0 []).ext E2)
  exact Gl.outA X2 hx hk Bd.returns rfl rfl (hb hby d18_6) (Eq.mpr (congrArg (fun hh => Q184 Z  G1 w_sf h0 n0 _ hh _) e2) (show Q184 Z  G1 w_sf h0 n0 _ h2 _ from ⟨b2, k2, rfl, N1, K3, V2, sb2⟩)) (by decide) (by decide)
theorem ef174 (m : MethodId) (x0 : Addr) (x1 : Int32) (x2 : Int32) : entryFrame m #[(.ref x0), (.int x1), (.int x2)] 5 = mkF m 0 #[.val (.ref x0), .val (.int x1), .val (.int x2), .unset, .unset] [] := by first | (simp [entryFrame, mkF, argsToLocals, Value.category]; done) | rfl
def Q174 (Z : State) (a0 : Addr) (ka : ClassId) (x0 : Int32) (x1 : Int32) (x2 : Int32) (x3 : Int32) (G1 : Int32) (w_sf : Value) (h0 : Heap) (n0 : Nat) (v : Option Value) (h : Heap) (L : List Loc) : Prop := ∃ (b : Addr), ∃ (kb : ClassId), v = some (.ref b) ∧ Fr n0 L ∧ Keep h0 h [] ∧ Arv Z h b kb .byte (8 : Int32) [(.int (bA x0)), (.int (bB x0)), (.int (bA x1)), (.int (bB x1)), (.int (bA x2)), (.int (bB x2)), (.int (bA x3)), (.int (bB x3))] (.int 0) ∧ (h0.size ≤ b)
theorem rm174 (l : Launch) (Z : State) (a0' : Array Value) (hw : ∀ d ∈ tables_1, d.before a0' Z = true) (ws : List Jvm.Cond) (a0 : Addr) (ka : ClassId) (x0 : Int32) (x1 : Int32) (x2 : Int32) (x3 : Int32) (G1 : Int32) (w_sf : Value) (h0 : Heap) (n0 : Nat) (O : Old Z n0 h0) (W : Wd Z G1 w_sf) (pf0 : Arv Z h0 a0 ka .char (4 : Int32) [(.int x0), (.int x1), (.int x2), (.int x3)] (.int 0)) :
    MetFree l mq15 (head1 (Jvm.Cond.code mq15 jdk_52_method_14_code 5 (some (.array .byte)) :: ws) ({ frames := 2, cells := 1, slots := 8, locals := 24 } : Room)) (fun a U => a = #[(.ref a0), (.int 0), (.int 4)] ∧ Z.Warmed39 U.vm ∧ U.heap = h0) (fun _ _ _ _ _ => True) (fun _ U o U' => ∃ v L, o = .returned v ∧ Q174 Z a0 ka x0 x1 x2 x3 G1 w_sf h0 n0 v U'.heap L ∧ FrameEnd U o U' L ({ frames := 2, cells := 1, slots := 8, locals := 24 } : Room).cells ({ frames := 2, cells := 1, slots := 8, locals := 24 } : Room).slots) := by
  refine MetFree.of_bodySF (plainFor_of_name pn3) hisR ?_
  intro p e s m args below meth c s₁ Bd hml0 hP hK
  obtain ⟨rfl, hZ, hh⟩ := hP
  have hx := Bd.exec
  have hby := Bd.bytes
  have hml : c.maxLocals = 5 := hml0
  have hown : s.vm.findClass "java/lang/StringUTF16" = some m.cls := findClass_of_methodNamed Bd.named
  have hnm := (name_of_methodNamed Bd.named Bd.method).1
  have hk := Bd.notSynchronized
  have X0 : Stand p l e ({ frames := 2, cells := 1, slots := 8, locals := 24 } : Room) s m #[(.ref a0), (.int 0), (.int 4)] below meth c s₁ [] 0 0 := Stand.of_body Bd
  have hh2 := hh
  have e0 : s₁.heap = h0 := by rw [← hh, Bd.state]; rfl
  have N0 := Fr.nil n0
  show Gl p e below (Pos 1 8 (Q174 Z a0 ka x0 x1 x2 x3 G1 w_sf h0 n0) s) s₁ _
  refine Gl.cast (ef174 m a0 (0 : Int32) (4 : Int32)) ?_
  refine gb (mkF m 1 #[vr a0, vi 0, vi 4, .unset, .unset] [(.int 4)]) (fun _ k => XS.iloadN X0.here hx rfl (hb hby d17_0) rfl k) ?_
  obtain ⟨_, _, ⟨T1, L1, k1, n1⟩, -, X1, ⟨Lc1, hQ1, l1, y1, z1⟩, st1⟩ := callS X0 hx (y := mq14) hown (mvT hZ (hW hw 80 rfl)) (mvT hZ (hW hw 81 rfl)) (mvT hZ (hW hw 47 rfl)) (mvT hZ (hW hw 82 rfl)) (by decide) (backOf (W := 0) (rm184 l Z a0' hw []  G1 w_sf h0 n0 O W ) hZ (hW hw 82 rfl) (hW hw 47 rfl) (by decide) (by decide)) (g := (mkF m 1 #[vr a0, vi 0, vi 4, .unset, .unset] [(.int 4)])) rfl (by rw [hml]; rfl) (argsL := [(.int 4)]) (rest := []) (lenOf pd187 rfl) rfl (Nat.le_of_eq rfl) (hb hby d17_1) (fun _ _ => ⟨rfl, e0, (by decide : 0 + 1 ≤ _), (by decide : 0 + 8 ≤ _)⟩)
  dsimp only [Pt.U, Pt.locs, Pt.cells, Pt.slots] at X1 l1 y1 z1 st1 hQ1
  subst l1 y1 z1
  obtain ⟨b_1, kb_1, rfl, N1q, Kc1, fc1_0, fc1_1⟩ := hQ1
  have N1 := Fr.app N0 N1q
  have nb2 : a0 ≠ b_1 := Nat.ne_of_lt (Nat.lt_of_lt_of_le pf0.lt fc1_1)
  refine gb (mkF m 4 #[vr a0, vi 0, vi 4, .unset, .unset] [(.ref b_1)]) st1 ?_
  refine gb (mkF m 5 #[vr a0, vi 0, vi 4, vr b_1, .unset] []) (fun _ k => XS.astoreN X1.here hx rfl (hb hby d17_4) rfl rfl (l' := #[vr a0, vi 0, vi 4, vr b_1, .unset]) rfl k) ?_
  refine gb (mkF m 6 #[vr a0, vi 0, vi 4, vr b_1, .unset] [(.int 0)]) (fun _ k => XS.iconst X1.here hx rfl (hb hby d17_5) k) ?_
  refine gb (mkF m 8 #[vr a0, vi 0, vi 4, vr b_1, vi 0] []) (fun _ k => XS.istore X1.here hx rfl (hb hby d17_6) rfl (l' := #[vr a0, vi 0, vi 4, vr b_1, vi 0]) rfl k) ?_
  refine gb (mkF m 10 #[vr a0, vi 0, vi 4, vr b_1, vi 0] [(.int 0)]) (fun _ k => XS.iload X1.here hx rfl (hb hby d17_8) rfl k) ?_
  refine gb (mkF m 11 #[vr a0, vi 0, vi 4, vr b_1, vi 0] [(.int 4), (.int 0)]) (fun _ k => XS.iloadN X1.here hx rfl (hb hby d17_10) rfl k) ?_
  refine gb (mkF m 14 #[vr a0, vi 0, vi 4, vr b_1, vi 0] []) (fun _ k => XS.icmpNo X1.here hx rfl (hb hby d17_11) rfl (tlt (by decide : (0 : Int32) < (4 : Int32))).2.1 k) ?_
  refine gb (mkF m 15 #[vr a0, vi 0, vi 4, vr b_1, vi 0] [(.ref b_1)]) (fun _ k => XS.aloadN X1.here hx rfl (hb hby d17_14) rfl rfl k) ?_
  refine gb (mkF m 17 #[vr a0, vi 0, vi 4, vr b_1, vi 0] [(.int 0), (.ref b_1)]) (fun _ k => XS.iload X1.here hx rfl (hb hby d17_15) rfl k) ?_
  refine gb (mkF m 18 #[vr a0, vi 0, vi 4, vr b_1, vi 0] [(.ref a0), (.int 0), (.ref b_1)]) (fun _ k => XS.aloadN X1.here hx rfl (hb hby d17_17) rfl rfl k) ?_
  refine gb (mkF m 19 #[vr a0, vi 0, vi 4, vr b_1, vi 0] [(.int 0), (.ref a0), (.int 0), (.ref b_1)]) (fun _ k => XS.iloadN X1.here hx rfl (hb hby d17_18) rfl k) ?_
  have f3 := (Arv.keep pf0 Kc1 nin0)
  obtain ⟨cl4, Ar4, qa4, Sa4, Na4, Ha4, Ga4⟩ := id f3
  have hin5 : ¬ ((0 : Int32) < 0 ∨ cl4.slots.size ≤ ((0 : Int32)).toNatClampNeg) := inb_of Sa4 ⟨by decide, by decide⟩
  refine gb (mkF m 20 #[vr a0, vi 0, vi 4, vr b_1, vi 0] [(.int x0), (.int 0), (.ref b_1)]) (X1.caload hx (j := (0 : Int32)) (v := (.int x0)) Ar4.1 (State.isArrayOf_alike hZ.alike Ar4.2.1) Ar4.2.2 hin5 (Has.at Ha4 hin5 rfl) (g := (mkF m 19 #[vr a0, vi 0, vi 4, vr b_1, vi 0] [(.int 0), (.ref a0), (.int 0), (.ref b_1)])) rfl rfl (hb hby d17_19)) ?_
  have O7 := (O.keep Kc1 all0)
  obtain ⟨_, _, ⟨T6, L6, k6, n6⟩, -, X6, ⟨Lc6, hQ6, l6, y6, z6⟩, st6⟩ := callS X1 hx (y := mq12) hown (mvT hZ (hW hw 87 rfl)) (mvT hZ (hW hw 88 rfl)) (mvT hZ (hW hw 47 rfl)) (mvT hZ (hW hw 89 rfl)) (by decide) (backOf (W := 0) (rm20 l Z a0' hw [] b_1 (0 : Int32) x0 kb_1 [(.int 0), (.int 0), (.int 0), (.int 0), (.int 0), (.int 0), (.int 0), (.int 0)] (8 : Int32) G1 w_sf T1.heap n0 O7 W fc1_0 (Nat.le_trans (Nat.le_trans (Nat.le_of_eq O.1.symm) O.2.1) fc1_1) (by decide) (by decide) (Nat.lt_of_lt_of_eq (by decide : ((0 : Int32) <<< ((1 : Int32) &&& 31)).toNatClampNeg < 8) rfl) (Nat.lt_of_lt_of_eq (by decide : (((0 : Int32) <<< ((1 : Int32) &&& 31)) + (1 : Int32)).toNatClampNeg < 8) rfl)) hZ (hW hw 89 rfl) (hW hw 47 rfl) (by decide) (by decide)) (g := (mkF m 20 #[vr a0, vi 0, vi 4, vr b_1, vi 0] [(.int x0), (.int 0), (.ref b_1)])) rfl (by rw [hml]; rfl) (argsL := [(.ref b_1), (.int 0), (.int x0)]) (rest := []) (lenOf pd188 rfl) rfl (Nat.le_of_eq rfl) (hb hby d17_20) (fun _ _ => ⟨rfl, rfl, (by decide : 1 + 0 ≤ _), (by decide : 8 + 0 ≤ _)⟩)
  dsimp only [Pt.U, Pt.locs, Pt.cells, Pt.slots] at X6 l6 y6 z6 st6 hQ6
  subst l6 y6 z6
  obtain ⟨rfl, N6q, Kc6, fc6_0⟩ := hQ6
  have N6 := Fr.app N1 N6q
  have fr8 : Arv Z T6.heap b_1 kb_1 .byte (8 : Int32) [(.int (bA x0)), (.int (bB x0)), (.int 0), (.int 0), (.int 0), (.int 0), (.int 0), (.int 0)] (.int 0) := arv_at fc6_0 (by decide : (((0 : Int32) <<< ((1 : Int32) &&& 31))).toNatClampNeg = 0) (by decide : ((((0 : Int32) <<< ((1 : Int32) &&& 31)) + (1 : Int32))).toNatClampNeg = 1)
  refine gb (mkF m 23 #[vr a0, vi 0, vi 4, vr b_1, vi 0] []) st6 ?_
  refine gb (mkF m 26 #[vr a0, vi 1, vi 4, vr b_1, vi 0] []) (fun _ k => XS.iinc X6.here hx rfl (hb hby d17_23) rfl (l' := #[vr a0, vi 1, vi 4, vr b_1, vi 0]) rfl k) ?_
  refine gb (mkF m 29 #[vr a0, vi 1, vi 4, vr b_1, vi 1] []) (fun _ k => XS.iinc X6.here hx rfl (hb hby d17_26) rfl (l' := #[vr a0, vi 1, vi 4, vr b_1, vi 1]) rfl k) ?_
  refine gb (mkF m 8 #[vr a0, vi 1, vi 4, vr b_1, vi 1] []) (fun _ k => XS.goto X6.here hx rfl (pc0 := 29) (pc' := 8) rfl (hb hby d17_29) (by decide) (by decide) k) ?_
  refine gb (mkF m 10 #[vr a0, vi 1, vi 4, vr b_1, vi 1] [(.int 1)]) (fun _ k => XS.iload X6.here hx rfl (hb hby d17_8) rfl k) ?_
  refine gb (mkF m 11 #[vr a0, vi 1, vi 4, vr b_1, vi 1] [(.int 4), (.int 1)]) (fun _ k => XS.iloadN X6.here hx rfl (hb hby d17_10) rfl k) ?_
  refine gb (mkF m 14 #[vr a0, vi 1, vi 4, vr b_1, vi 1] []) (fun _ k => XS.icmpNo X6.here hx rfl (hb hby d17_11) rfl (tlt (by decide : (1 : Int32) < (4 : Int32))).2.1 k) ?_
  refine gb (mkF m 15 #[vr a0, vi 1, vi 4, vr b_1, vi 1] [(.ref b_1)]) (fun _ k => XS.aloadN X6.here hx rfl (hb hby d17_14) rfl rfl k) ?_
  refine gb (mkF m 17 #[vr a0, vi 1, vi 4, vr b_1, vi 1] [(.int 1), (.ref b_1)]) (fun _ k => XS.iload X6.here hx rfl (hb hby d17_15) rfl k) ?_
  refine gb (mkF m 18 #[vr a0, vi 1, vi 4, vr b_1, vi 1] [(.ref a0), (.int 1), (.ref b_1)]) (fun _ k => XS.aloadN X6.here hx rfl (hb hby d17_17) rfl rfl k) ?_
  refine gb (mkF m 19 #[vr a0, vi 1, vi 4, vr b_1, vi 1] [(.int 1), (.ref a0), (.int 1), (.ref b_1)]) (fun _ k => XS.iloadN X6.here hx rfl (hb hby d17_18) rfl k) ?_
  have f9 := (Arv.keep f3 Kc6 (ninS nb2 nin0))
  obtain ⟨cl10, Ar10, qa10, Sa10, Na10, Ha10, Ga10⟩ := id f9
  have hin11 : ¬ ((1 : Int32) < 0 ∨ cl10.slots.size ≤ ((1 : Int32)).toNatClampNeg) := inb_of Sa10 ⟨by decide, by decide⟩
  refine gb (mkF m 20 #[vr a0, vi 1, vi 4, vr b_1, vi 1] [(.int x1), (.int 1), (.ref b_1)]) (X6.caload hx (j := (1 : Int32)) (v := (.int x1)) Ar10.1 (State.isArrayOf_alike hZ.alike Ar10.2.1) Ar10.2.2 hin11 (Has.at Ha10 hin11 (congrArg (fun k => List.getD ([(.int x0), (.int x1), (.int x2), (.int x3)] : List Value) k (.int 0)) (by decide : ((1 : Int32)).toNatClampNeg = 1))) (g := (mkF m 19 #[vr a0, vi 1, vi 4, vr b_1, vi 1] [(.int 1), (.ref a0), (.int 1), (.ref b_1)])) rfl rfl (hb hby d17_19)) ?_
  have O13 := (O7.keep Kc6 (allS (Nat.le_trans (Nat.le_trans (Nat.le_of_eq O.1.symm) O.2.1) fc1_1) all0))
  obtain ⟨_, _, ⟨T12, L12, k12, n12⟩, -, X12, ⟨Lc12, hQ12, l12, y12, z12⟩, st12⟩ := callS X6 hx (y := mq12) hown (mvT hZ (hW hw 87 rfl)) (mvT hZ (hW hw 88 rfl)) (mvT hZ (hW hw 47 rfl)) (mvT hZ (hW hw 89 rfl)) (by decide) (backOf (W := 0) (rm20 l Z a0' hw [] b_1 (1 : Int32) x1 kb_1 [(.int (bA x0)), (.int (bB x0)), (.int 0), (.int 0), (.int 0), (.int 0), (.int 0), (.int 0)] (8 : Int32) G1 w_sf T6.heap n0 O13 W fr8 (Nat.le_trans (Nat.le_trans (Nat.le_of_eq O.1.symm) O.2.1) fc1_1) (by decide) (by decide) (Nat.lt_of_lt_of_eq (by decide : ((1 : Int32) <<< ((1 : Int32) &&& 31)).toNatClampNeg < 8) rfl) (Nat.lt_of_lt_of_eq (by decide : (((1 : Int32) <<< ((1 : Int32) &&& 31)) + (1 : Int32)).toNatClampNeg < 8) rfl)) hZ (hW hw 89 rfl) (hW hw 47 rfl) (by decide) (by decide)) (g := (mkF m 20 #[vr a0, vi 1, vi 4, vr b_1, vi 1] [(.int x1), (.int 1), (.ref b_1)])) rfl (by rw [hml]; rfl) (argsL := [(.ref b_1), (.int 1), (.int x1)]) (rest := []) (lenOf pd188 rfl) rfl (Nat.le_of_eq rfl) (hb hby d17_20) (fun _ _ => ⟨rfl, rfl, (by decide : 1 + 0 ≤ _), (by decide : 8 + 0 ≤ _)⟩)
  dsimp only [Pt.U, Pt.locs, Pt.cells, Pt.slots] at X12 l12 y12 z12 st12 hQ12
  subst l12 y12 z12
  obtain ⟨rfl, N12q, Kc12, fc12_0⟩ := hQ12
  have N12 := Fr.app N6 N12q
  have fr14 : Arv Z T12.heap b_1 kb_1 .byte (8 : Int32) [(.int (bA x0)), (.int (bB x0)), (.int (bA x1)), (.int (bB x1)), (.int 0), (.int 0), (.int 0), (.int 0)] (.int 0) := arv_at fc12_0 (by decide : (((1 : Int32) <<< ((1 : Int32) &&& 31))).toNatClampNeg = 2) (by decide : ((((1 : Int32) <<< ((1 : Int32) &&& 31)) + (1 : Int32))).toNatClampNeg = 3)
  refine gb (mkF m 23 #[vr a0, vi 1, vi 4, vr b_1, vi 1] []) st12 ?_
  refine gb (mkF m 26 #[vr a0, vi 2, vi 4, vr b_1, vi 1] []) (fun _ k => XS.iinc X12.here hx rfl (hb hby d17_23) rfl (l' := #[vr a0, vi 2, vi 4, vr b_1, vi 1]) rfl k) ?_
  refine gb (mkF m 29 #[vr a0, vi 2, vi 4, vr b_1, vi 2] []) (fun _ k => XS.iinc X12.here hx rfl (hb hby d17_26) rfl (l' := #[vr a0, vi 2, vi 4, vr b_1, vi 2]) rfl k) ?_
  refine gb (mkF m 8 #[vr a0, vi 2, vi 4, vr b_1, vi 2] []) (fun _ k => XS.goto X12.here hx rfl (pc0 := 29) (pc' := 8) rfl (hb hby d17_29) (by decide) (by decide) k) ?_
  refine gb (mkF m 10 #[vr a0, vi 2, vi 4, vr b_1, vi 2] [(.int 2)]) (fun _ k => XS.iload X12.here hx rfl (hb hby d17_8) rfl k) ?_
  refine gb (mkF m 11 #[vr a0, vi 2, vi 4, vr b_1, vi 2] [(.int 4), (.int 2)]) (fun _ k => XS.iloadN X12.here hx rfl (hb hby d17_10) rfl k) ?_
  refine gb (mkF m 14 #[vr a0, vi 2, vi 4, vr b_1, vi 2] []) (fun _ k => XS.icmpNo X12.here hx rfl (hb hby d17_11) rfl (tlt (by decide : (2 : Int32) < (4 : Int32))).2.1 k) ?_
  refine gb (mkF m 15 #[vr a0, vi 2, vi 4, vr b_1, vi 2] [(.ref b_1)]) (fun _ k => XS.aloadN X12.here hx rfl (hb hby d17_14) rfl rfl k) ?_
  refine gb (mkF m 17 #[vr a0, vi 2, vi 4, vr b_1, vi 2] [(.int 2), (.ref b_1)]) (fun _ k => XS.iload X12.here hx rfl (hb hby d17_15) rfl k) ?_
  refine gb (mkF m 18 #[vr a0, vi 2, vi 4, vr b_1, vi 2] [(.ref a0), (.int 2), (.ref b_1)]) (fun _ k => XS.aloadN X12.here hx rfl (hb hby d17_17) rfl rfl k) ?_
  refine gb (mkF m 19 #[vr a0, vi 2, vi 4, vr b_1, vi 2] [(.int 2), (.ref a0), (.int 2), (.ref b_1)]) (fun _ k => XS.iloadN X12.here hx rfl (hb hby d17_18) rfl k) ?_
  have f15 := (Arv.keep f9 Kc12 (ninS nb2 nin0))
  obtain ⟨cl16, Ar16, qa16, Sa16, Na16, Ha16, Ga16⟩ := id f15
  have hin17 : ¬ ((2 : Int32) < 0 ∨ cl16.slots.size ≤ ((2 : Int32)).toNatClampNeg) := inb_of Sa16 ⟨by decide, by decide⟩
  refine gb (mkF m 20 #[vr a0, vi 2, vi 4, vr b_1, vi 2] [(.int x2), (.int 2), (.ref b_1)]) (X12.caload hx (j := (2 : Int32)) (v := (.int x2)) Ar16.1 (State.isArrayOf_alike hZ.alike Ar16.2.1) Ar16.2.2 hin17 (Has.at Ha16 hin17 (congrArg (fun k => List.getD ([(.int x0), (.int x1), (.int x2), (.int x3)] : List Value) k (.int 0)) (by decide : ((2 : Int32)).toNatClampNeg = 2))) (g := (mkF m 19 #[vr a0, vi 2, vi 4, vr b_1, vi 2] [(.int 2), (.ref a0), (.int 2), (.ref b_1)])) rfl rfl (hb hby d17_19)) ?_
  have O19 := (O13.keep Kc12 (allS (Nat.le_trans (Nat.le_trans (Nat.le_of_eq O.1.symm) O.2.1) fc1_1) all0))
  obtain ⟨_, _, ⟨T18, L18, k18, n18⟩, -, X18, ⟨Lc18, hQ18, l18, y18, z18⟩, st18⟩ := callS X12 hx (y := mq12) hown (mvT hZ (hW hw 87 rfl)) (mvT hZ (hW hw 88 rfl)) (mvT hZ (hW hw 47 rfl)) (mvT hZ (hW hw 89 rfl)) (by decide) (backOf (W := 0) (rm20 l Z a0' hw [] b_1 (2 : Int32) x2 kb_1 [(.int (bA x0)), (.int (bB x0)), (.int (bA x1)), (.int (bB x1)), (.int 0), (.int 0), (.int 0), (.int 0)] (8 : Int32) G1 w_sf T12.heap n0 O19 W fr14 (Nat.le_trans (Nat.le_trans (Nat.le_of_eq O.1.symm) O.2.1) fc1_1) (by decide) (by decide) (Nat.lt_of_lt_of_eq (by decide : ((2 : Int32) <<< ((1 : Int32) &&& 31)).toNatClampNeg < 8) rfl) (Nat.lt_of_lt_of_eq (by decide : (((2 : Int32) <<< ((1 : Int32) &&& 31)) + (1 : Int32)).toNatClampNeg < 8) rfl)) hZ (hW hw 89 rfl) (hW hw 47 rfl) (by decide) (by decide)) (g := (mkF m 20 #[vr a0, vi 2, vi 4, vr b_1, vi 2] [(.int x2), (.int 2), (.ref b_1)])) rfl (by rw [hml]; rfl) (argsL := [(.ref b_1), (.int 2), (.int x2)]) (rest := []) (lenOf pd188 rfl) rfl (Nat.le_of_eq rfl) (hb hby d17_20) (fun _ _ => ⟨rfl, rfl, (by decide : 1 + 0 ≤ _), (by decide : 8 + 0 ≤ _)⟩)
  dsimp only [Pt.U, Pt.locs, Pt.cells, Pt.slots] at X18 l18 y18 z18 st18 hQ18
  subst l18 y18 z18
  obtain ⟨rfl, N18q, Kc18, fc18_0⟩ := hQ18
  have N18 := Fr.app N12 N18q
  have fr20 : Arv Z T18.heap b_1 kb_1 .byte (8 : Int32) [(.int (bA x0)), (.int (bB x0)), (.int (bA x1)), (.int (bB x1)), (.int (bA x2)), (.int (bB x2)), (.int 0), (.int 0)] (.int 0) := arv_at fc18_0 (by decide : (((2 : Int32) <<< ((1 : Int32) &&& 31))).toNatClampNeg = 4) (by decide : ((((2 : Int32) <<< ((1 : Int32) &&& 31)) + (1 : Int32))).toNatClampNeg = 5)
  refine gb (mkF m 23 #[vr a0, vi 2, vi 4, vr b_1, vi 2] []) st18 ?_
  refine gb (mkF m 26 #[vr a0, vi 3, vi 4, vr b_1, vi 2] []) (fun _ k => XS.iinc X18.here hx rfl (hb hby d17_23) rfl (l' := #[vr a0, vi 3, vi 4, vr b_1, vi 2]) rfl k) ?_
  refine gb (mkF m 29 #[vr a0, vi 3, vi 4, vr b_1, vi 3] []) (fun _ k => XS.iinc X18.here hx rfl (hb hby d17_26) rfl (l' := #[vr a0, vi 3, vi 4, vr b_1, vi 3]) rfl k) ?_
  refine gb (mkF m 8 #[vr a0, vi 3, vi 4, vr b_1, vi 3] []) (fun _ k => XS.goto X18.here hx rfl (pc0 := 29) (pc' := 8) rfl (hb hby d17_29) (by decide) (by decide) k) ?_
  refine gb (mkF m 10 #[vr a0, vi 3, vi 4, vr b_1, vi 3] [(.int 3)]) (fun _ k => XS.iload X18.here hx rfl (hb hby d17_8) rfl k) ?_
  refine gb (mkF m 11 #[vr a0, vi 3, vi 4, vr b_1, vi 3] [(.int 4), (.int 3)]) (fun _ k => XS.iloadN X18.here hx rfl (hb hby d17_10) rfl k) ?_
  refine gb (mkF m 14 #[vr a0, vi 3, vi 4, vr b_1, vi 3] []) (fun _ k => XS.icmpNo X18.here hx rfl (hb hby d17_11) rfl (tlt (by decide : (3 : Int32) < (4 : Int32))).2.1 k) ?_
  refine gb (mkF m 15 #[vr a0, vi 3, vi 4, vr b_1, vi 3] [(.ref b_1)]) (fun _ k => XS.aloadN X18.here hx rfl (hb hby d17_14) rfl rfl k) ?_
  refine gb (mkF m 17 #[vr a0, vi 3, vi 4, vr b_1, vi 3] [(.int 3), (.ref b_1)]) (fun _ k => XS.iload X18.here hx rfl (hb hby d17_15) rfl k) ?_
  refine gb (mkF m 18 #[vr a0, vi 3, vi 4, vr b_1, vi 3] [(.ref a0), (.int 3), (.ref b_1)]) (fun _ k => XS.aloadN X18.here hx rfl (hb hby d17_17) rfl rfl k) ?_
  refine gb (mkF m 19 #[vr a0, vi 3, vi 4, vr b_1, vi 3] [(.int 3), (.ref a0), (.int 3), (.ref b_1)]) (fun _ k => XS.iloadN X18.here hx rfl (hb hby d17_18) rfl k) ?_
  have f21 := (Arv.keep f15 Kc18 (ninS nb2 nin0))
  obtain ⟨cl22, Ar22, qa22, Sa22, Na22, Ha22, Ga22⟩ := id f21
  have hin23 : ¬ ((3 : Int32) < 0 ∨ cl22.slots.size ≤ ((3 : Int32)).toNatClampNeg) := inb_of Sa22 ⟨by decide, by decide⟩
  refine gb (mkF m 20 #[vr a0, vi 3, vi 4, vr b_1, vi 3] [(.int x3), (.int 3), (.ref b_1)]) (X18.caload hx (j := (3 : Int32)) (v := (.int x3)) Ar22.1 (State.isArrayOf_alike hZ.alike Ar22.2.1) Ar22.2.2 hin23 (Has.at Ha22 hin23 (congrArg (fun k => List.getD ([(.int x0), (.int x1), (.int x2), (.int x3)] : List Value) k (.int 0)) (by decide : ((3 : Int32)).toNatClampNeg = 3))) (g := (mkF m 19 #[vr a0, vi 3, vi 4, vr b_1, vi 3] [(.int 3), (.ref a0), (.int 3), (.ref b_1)])) rfl rfl (hb hby d17_19)) ?_
  have O25 := (O19.keep Kc18 (allS (Nat.le_trans (Nat.le_trans (Nat.le_of_eq O.1.symm) O.2.1) fc1_1) all0))
  obtain ⟨_, _, ⟨T24, L24, k24, n24⟩, -, X24, ⟨Lc24, hQ24, l24, y24, z24⟩, st24⟩ := callS X18 hx (y := mq12) hown (mvT hZ (hW hw 87 rfl)) (mvT hZ (hW hw 88 rfl)) (mvT hZ (hW hw 47 rfl)) (mvT hZ (hW hw 89 rfl)) (by decide) (backOf (W := 0) (rm20 l Z a0' hw [] b_1 (3 : Int32) x3 kb_1 [(.int (bA x0)), (.int (bB x0)), (.int (bA x1)), (.int (bB x1)), (.int (bA x2)), (.int (bB x2)), (.int 0), (.int 0)] (8 : Int32) G1 w_sf T18.heap n0 O25 W fr20 (Nat.le_trans (Nat.le_trans (Nat.le_of_eq O.1.symm) O.2.1) fc1_1) (by decide) (by decide) (Nat.lt_of_lt_of_eq (by decide : ((3 : Int32) <<< ((1 : Int32) &&& 31)).toNatClampNeg < 8) rfl) (Nat.lt_of_lt_of_eq (by decide : (((3 : Int32) <<< ((1 : Int32) &&& 31)) + (1 : Int32)).toNatClampNeg < 8) rfl)) hZ (hW hw 89 rfl) (hW hw 47 rfl) (by decide) (by decide)) (g := (mkF m 20 #[vr a0, vi 3, vi 4, vr b_1, vi 3] [(.int x3), (.int 3), (.ref b_1)])) rfl (by rw [hml]; rfl) (argsL := [(.ref b_1), (.int 3), (.int x3)]) (rest := []) (lenOf pd188 rfl) rfl (Nat.le_of_eq rfl) (hb hby d17_20) (fun _ _ => ⟨rfl, rfl, (by decide : 1 + 0 ≤ _), (by decide : 8 + 0 ≤ _)⟩)
  dsimp only [Pt.U, Pt.locs, Pt.cells, Pt.slots] at X24 l24 y24 z24 st24 hQ24
  subst l24 y24 z24
  obtain ⟨rfl, N24q, Kc24, fc24_0⟩ := hQ24
  have N24 := Fr.app N18 N24q
  have fr26 : Arv Z T24.heap b_1 kb_1 .byte (8 : Int32) [(.int (bA x0)), (.int (bB x0)), (.int (bA x1)), (.int (bB x1)), (.int (bA x2)), (.int (bB x2)), (.int (bA x3)), (.int (bB x3))] (.int 0) := arv_at fc24_0 (by decide : (((3 : Int32) <<< ((1 : Int32) &&& 31))).toNatClampNeg = 6) (by decide : ((((3 : Int32) <<< ((1 : Int32) &&& 31)) + (1 : Int32))).toNatClampNeg = 7)
  refine gb (mkF m 23 #[vr a0, vi 3, vi 4, vr b_1, vi 3] []) st24 ?_
  refine gb (mkF m 26 #[vr a0, vi 4, vi 4, vr b_1, vi 3] []) (fun _ k => XS.iinc X24.here hx rfl (hb hby d17_23) rfl (l' := #[vr a0, vi 4, vi 4, vr b_1, vi 3]) rfl k) ?_
  refine gb (mkF m 29 #[vr a0, vi 4, vi 4, vr b_1, vi 4] []) (fun _ k => XS.iinc X24.here hx rfl (hb hby d17_26) rfl (l' := #[vr a0, vi 4, vi 4, vr b_1, vi 4]) rfl k) ?_
  refine gb (mkF m 8 #[vr a0, vi 4, vi 4, vr b_1, vi 4] []) (fun _ k => XS.goto X24.here hx rfl (pc0 := 29) (pc' := 8) rfl (hb hby d17_29) (by decide) (by decide) k) ?_
  refine gb (mkF m 10 #[vr a0, vi 4, vi 4, vr b_1, vi 4] [(.int 4)]) (fun _ k => XS.iload X24.here hx rfl (hb hby d17_8) rfl k) ?_
  refine gb (mkF m 11 #[vr a0, vi 4, vi 4, vr b_1, vi 4] [(.int 4), (.int 4)]) (fun _ k => XS.iloadN X24.here hx rfl (hb hby d17_10) rfl k) ?_
  refine gb (mkF m 32 #[vr a0, vi 4, vi 4, vr b_1, vi 4] []) (fun _ k => XS.icmpYes X24.here hx rfl (pc0 := 11) (pc' := 32) rfl (hb hby d17_11) rfl (flt (by decide : ¬ ((4 : Int32) < (4 : Int32)))).2.1 (by decide) (by decide) k) ?_
  refine gb (mkF m 33 #[vr a0, vi 4, vi 4, vr b_1, vi 4] [(.ref b_1)]) (fun _ k => XS.aloadN X24.here hx rfl (hb hby d17_32) rfl rfl k) ?_
  have K27 := ((((((Keep.refl h0 []).trans Kc1 all0).trans Kc6 (allS (Or.inr (Nat.le_trans (Keep.refl h0 []).1 fc1_1)) all0)).trans Kc12 (allS (Or.inr (Nat.le_trans (Keep.refl h0 []).1 fc1_1)) all0)).trans Kc18 (allS (Or.inr (Nat.le_trans (Keep.refl h0 []).1 fc1_1)) all0)).trans Kc24 (allS (Or.inr (Nat.le_trans (Keep.refl h0 []).1 fc1_1)) all0))
  exact Gl.outA X24 hx hk Bd.returns rfl rfl (hb hby d17_33) ⟨b_1, kb_1, rfl, N24, K27, fr26, (Nat.le_trans (Keep.refl h0 []).1 fc1_1)⟩ (by decide) (by decide)
theorem at21 {G1 : Int32} {w_sf : Value}  {us : List Int32} {i x : Int32} (e1 : us.getD (i <<< ((1 : Int32) &&& 31)).toNatClampNeg 0 = bA x) (e2 : us.getD ((i <<< ((1 : Int32) &&& 31)) + (1 : Int32)).toNatClampNeg 0 = bB x) : fn21 i us G1 w_sf = nar .char x := by
  unfold fn21
  rw [e1, e2]
  exact dec_U x
theorem d9_0 : decode jdk_52_method_16_code 0 = .ok (.iload_n 2, 1) := by decide +kernel
theorem d9_1 : decode jdk_52_method_16_code 1 = .ok (.newarray .byte, 2) := by decide +kernel
theorem d9_3 : decode jdk_52_method_16_code 3 = .ok (.astore_n 3, 1) := by decide +kernel
theorem d9_4 : decode jdk_52_method_16_code 4 = .ok (.aload_n 0, 1) := by decide +kernel
theorem d9_5 : decode jdk_52_method_16_code 5 = .ok (.iload_n 1, 1) := by decide +kernel
theorem d9_6 : decode jdk_52_method_16_code 6 = .ok (.aload_n 3, 1) := by decide +kernel
theorem d9_7 : decode jdk_52_method_16_code 7 = .ok (.iconst 0, 1) := by decide +kernel
theorem d9_8 : decode jdk_52_method_16_code 8 = .ok (.iload_n 2, 1) := by decide +kernel
theorem d9_9 : decode jdk_52_method_16_code 9 = .ok (.invokestatic 115, 3) := by decide +kernel
theorem d9_12 : decode jdk_52_method_16_code 12 = .ok (.istore 4, 2) := by decide +kernel
theorem d9_14 : decode jdk_52_method_16_code 14 = .ok (.iload 4, 2) := by decide +kernel
theorem d9_16 : decode jdk_52_method_16_code 16 = .ok (.iload_n 2, 1) := by decide +kernel
theorem d9_17 : decode jdk_52_method_16_code 17 = .ok (.if_icmp .eq 40, 3) := by decide +kernel
theorem d9_20 : decode jdk_52_method_16_code 20 = .ok (.aload_n 0, 1) := by decide +kernel
theorem d9_21 : decode jdk_52_method_16_code 21 = .ok (.iload_n 1, 1) := by decide +kernel
theorem d9_22 : decode jdk_52_method_16_code 22 = .ok (.iload_n 2, 1) := by decide +kernel
theorem d9_23 : decode jdk_52_method_16_code 23 = .ok (.invokestatic 119, 3) := by decide +kernel
theorem d9_26 : decode jdk_52_method_16_code 26 = .ok (.astore 5, 2) := by decide +kernel
theorem d9_28 : decode jdk_52_method_16_code 28 = .ok (.aload 5, 2) := by decide +kernel
theorem d9_30 : decode jdk_52_method_16_code 30 = .ok (.iload 4, 2) := by decide +kernel
theorem d9_32 : decode jdk_52_method_16_code 32 = .ok (.invokestatic 71, 3) := by decide +kernel
theorem d9_35 : decode jdk_52_method_16_code 35 = .ok (.sipush 255, 3) := by decide +kernel
theorem d9_38 : decode jdk_52_method_16_code 38 = .ok (.if_icmp .gt 16, 3) := by decide +kernel
theorem d9_54 : decode jdk_52_method_16_code 54 = .ok (.aload 5, 2) := by decide +kernel
theorem d9_56 : decode jdk_52_method_16_code 56 = .ok (.areturn, 1) := by decide +kernel
theorem d9_57 : decode jdk_52_method_16_code 57 = .ok (.aload_n 3, 1) := by decide +kernel
theorem d9_58 : decode jdk_52_method_16_code 58 = .ok (.areturn, 1) := by decide +kernel
theorem pd216 : parseMethodDescriptor "([CI[BII)I" = some ⟨[(.array .char), .int, (.array .byte), .int, .int], some .int⟩ := by decide +kernel
theorem pd217 : parseMethodDescriptor "([CII)[B" = some ⟨[(.array .char), .int, .int], some (.array .byte)⟩ := by decide +kernel
theorem ef91 (m : MethodId) (x0 : Addr) (x1 : Int32) (x2 : Int32) : entryFrame m #[(.ref x0), (.int x1), (.int x2)] 6 = mkF m 0 #[.val (.ref x0), .val (.int x1), .val (.int x2), .unset, .unset, .unset] [] := by first | (simp [entryFrame, mkF, argsToLocals, Value.category]; done) | rfl
def Q91 (Z : State) (a0 : Addr) (ka : ClassId) (x0 : Int32) (G1 : Int32) (w_sf : Value) (h0 : Heap) (n0 : Nat) (v : Option Value) (h : Heap) (L : List Loc) : Prop := ∃ (b : Addr), ∃ (kb : ClassId), v = some (.ref b) ∧ Fr n0 L ∧ Keep h0 h [] ∧ (h0.size ≤ b) ∧ ((¬ ((255 : Int32) < x0) ∧ Arv Z h b kb .byte (1 : Int32) [(.int (bL x0))] (.int 0)) ∨ (((255 : Int32) < x0) ∧ Arv Z h b kb .byte (2 : Int32) [(.int (bA x0)), (.int (bB x0))] (.int 0)))
theorem rm91 (l : Launch) (Z : State) (a0' : Array Value) (hw : ∀ d ∈ tables_1, d.before a0' Z = true) (ws : List Jvm.Cond) (a0 : Addr) (ka : ClassId) (x0 : Int32) (G1 : Int32) (w_sf : Value) (h0 : Heap) (n0 : Nat) (O : Old Z n0 h0) (W : Wd Z G1 w_sf) (pf0 : Arv Z h0 a0 ka .char (1 : Int32) [(.int x0)] (.int 0)) (hc0 : nar .char x0 = x0) :
    MetFree l mq16 (head1 (Jvm.Cond.code mq16 jdk_52_method_16_code 6 (some (.array .byte)) :: ws) ({ frames := 3, cells := 2, slots := 3, locals := 40 } : Room)) (fun a U => a = #[(.ref a0), (.int 0), (.int 1)] ∧ Z.Warmed39 U.vm ∧ U.heap = h0) (fun _ _ _ _ _ => True) (fun _ U o U' => ∃ v L, o = .returned v ∧ Q91 Z a0 ka x0 G1 w_sf h0 n0 v U'.heap L ∧ FrameEnd U o U' L ({ frames := 3, cells := 2, slots := 3, locals := 40 } : Room).cells ({ frames := 3, cells := 2, slots := 3, locals := 40 } : Room).slots) := by
  refine MetFree.of_bodySF (plainFor_of_name pn3) hisR ?_
  intro p e s m args below meth c s₁ Bd hml0 hP hK
  obtain ⟨rfl, hZ, hh⟩ := hP
  have hx := Bd.exec
  have hby := Bd.bytes
  have hml : c.maxLocals = 6 := hml0
  have hown : s.vm.findClass "java/lang/StringUTF16" = some m.cls := findClass_of_methodNamed Bd.named
  have hnm := (name_of_methodNamed Bd.named Bd.method).1
  have hk := Bd.notSynchronized
  have X0 : Stand p l e ({ frames := 3, cells := 2, slots := 3, locals := 40 } : Room) s m #[(.ref a0), (.int 0), (.int 1)] below meth c s₁ [] 0 0 := Stand.of_body Bd
  have hh2 := hh
  have e0 : s₁.heap = h0 := by rw [← hh, Bd.state]; rfl
  have N0 := Fr.nil n0
  show Gl p e below (Pos 2 3 (Q91 Z a0 ka x0 G1 w_sf h0 n0) s) s₁ _
  refine Gl.cast (ef91 m a0 (0 : Int32) (1 : Int32)) ?_
  refine gb (mkF m 1 #[vr a0, vi 0, vi 1, .unset, .unset, .unset] [(.int 1)]) (fun _ k => XS.iloadN X0.here hx rfl (hb hby d9_0) rfl k) ?_
  obtain ⟨T1, h1, k1, X1, e1, E1, A1, st1⟩ := newP X0 hx hZ (hW hw 20 rfl) e0 (g := (mkF m 1 #[vr a0, vi 0, vi 1, .unset, .unset, .unset] [(.int 1)])) rfl (hb hby d9_1) rfl (by decide) (cap := 1) (by decide) (by decide) (by decide) (by decide)
  obtain ⟨b1, g1⟩ : ∃ z, z = (h0).size := ⟨_, rfl⟩
  rw [← g1] at A1 st1
  have gb1 : n0 ≤ b1 := Nat.le_trans (Nat.le_trans (Nat.le_of_eq O.1.symm) O.2.1) (Nat.le_of_eq g1.symm)
  have sb1 : h0.size ≤ b1 := Nat.le_trans (Keep.refl h0 []).1 (Nat.le_of_eq g1.symm)
  have ne1_0 : a0 ≠ b1 := Nat.ne_of_lt (Nat.lt_of_lt_of_le pf0.lt (Nat.le_of_eq g1.symm))
  have V1 : Arv Z h1 b1 k1 .byte (1 : Int32) [(.int 0)] (.int 0) := (Arv.new A1 (by decide)).pad (pad_rep [] (.int 0) 1)
  refine gb (mkF m 3 #[vr a0, vi 0, vi 1, .unset, .unset, .unset] [(.ref b1)]) st1 ?_
  refine gb (mkF m 4 #[vr a0, vi 0, vi 1, vr b1, .unset, .unset] []) (fun _ k => XS.astoreN X1.here hx rfl (hb hby d9_3) rfl rfl (l' := #[vr a0, vi 0, vi 1, vr b1, .unset, .unset]) rfl k) ?_
  refine gb (mkF m 5 #[vr a0, vi 0, vi 1, vr b1, .unset, .unset] [(.ref a0)]) (fun _ k => XS.aloadN X1.here hx rfl (hb hby d9_4) rfl rfl k) ?_
  refine gb (mkF m 6 #[vr a0, vi 0, vi 1, vr b1, .unset, .unset] [(.int 0), (.ref a0)]) (fun _ k => XS.iloadN X1.here hx rfl (hb hby d9_5) rfl k) ?_
  refine gb (mkF m 7 #[vr a0, vi 0, vi 1, vr b1, .unset, .unset] [(.ref b1), (.int 0), (.ref a0)]) (fun _ k => XS.aloadN X1.here hx rfl (hb hby d9_6) rfl rfl k) ?_
  refine gb (mkF m 8 #[vr a0, vi 0, vi 1, vr b1, .unset, .unset] [(.int 0), (.ref b1), (.int 0), (.ref a0)]) (fun _ k => XS.iconst X1.here hx rfl (hb hby d9_7) k) ?_
  refine gb (mkF m 9 #[vr a0, vi 0, vi 1, vr b1, .unset, .unset] [(.int 1), (.int 0), (.ref b1), (.int 0), (.ref a0)]) (fun _ k => XS.iloadN X1.here hx rfl (hb hby d9_8) rfl k) ?_
  have f3 := (Arv.ext pf0 E1)
  have O4 := (O.ext E1)
  obtain ⟨_, _, ⟨T2, L2, k2, n2⟩, -, X2, ⟨Lc2, hQ2, l2, y2, z2⟩, st2⟩ := callS X1 hx (y := mq11) hown (mvT hZ (hW hw 49 rfl)) (mvT hZ (hW hw 50 rfl)) (mvT hZ (hW hw 47 rfl)) (mvT hZ (hW hw 51 rfl)) (by decide) (backOf (W := 0) (rm101 l Z a0' hw [] a0 b1 ka k1 x0 G1 w_sf h1 n0 O4 W f3 V1 gb1 ne1_0) hZ (hW hw 51 rfl) (hW hw 47 rfl) (by decide) (by decide)) (g := (mkF m 9 #[vr a0, vi 0, vi 1, vr b1, .unset, .unset] [(.int 1), (.int 0), (.ref b1), (.int 0), (.ref a0)])) rfl (by rw [hml]; rfl) (argsL := [(.ref a0), (.int 0), (.ref b1), (.int 0), (.int 1)]) (rest := []) (lenOf pd216 rfl) rfl (Nat.le_of_eq rfl) (hb hby d9_9) (fun _ _ => ⟨rfl, e1, (by decide : 1 + 0 ≤ _), (by decide : 1 + 0 ≤ _)⟩)
  dsimp only [Pt.U, Pt.locs, Pt.cells, Pt.slots] at X2 l2 y2 z2 st2 hQ2
  subst l2 y2 z2
  obtain ⟨r_2, rfl, N2q, Kc2, fc2_0⟩ := hQ2
  have N2 := Fr.app N0 N2q
  refine gb (mkF m 12 #[vr a0, vi 0, vi 1, vr b1, .unset, .unset] [(.int r_2)]) st2 ?_
  rcases fc2_0 with ⟨rfl, hN, hV⟩ | ⟨rfl, hy⟩
  · refine gb (mkF m 14 #[vr a0, vi 0, vi 1, vr b1, vi 1, .unset] []) (fun _ k => XS.istore X2.here hx rfl (hb hby d9_12) rfl (l' := #[vr a0, vi 0, vi 1, vr b1, vi 1, .unset]) rfl k) ?_
    refine gb (mkF m 16 #[vr a0, vi 0, vi 1, vr b1, vi 1, .unset] [(.int 1)]) (fun _ k => XS.iload X2.here hx rfl (hb hby d9_14) rfl k) ?_
    refine gb (mkF m 17 #[vr a0, vi 0, vi 1, vr b1, vi 1, .unset] [(.int 1), (.int 1)]) (fun _ k => XS.iloadN X2.here hx rfl (hb hby d9_16) rfl k) ?_
    refine gb (mkF m 57 #[vr a0, vi 0, vi 1, vr b1, vi 1, .unset] []) (fun _ k => XS.icmpYes X2.here hx rfl (pc0 := 17) (pc' := 57) rfl (hb hby d9_17) rfl (teq (by decide : (1 : Int32) = (1 : Int32))).1 (by decide) (by decide) k) ?_
    refine gb (mkF m 58 #[vr a0, vi 0, vi 1, vr b1, vi 1, .unset] [(.ref b1)]) (fun _ k => XS.aloadN X2.here hx rfl (hb hby d9_57) rfl rfl k) ?_
    have K5 := (((Keep.refl h0 []).ext E1).trans Kc2 (allS (Or.inr sb1) all0))
    exact Gl.outA X2 hx hk Bd.returns rfl rfl (hb hby d9_58) ⟨b1, k1, rfl, N2, K5, sb1, (Or.inl ⟨hN, hV⟩)⟩ (by decide) (by decide)
  · refine gb (mkF m 14 #[vr a0, vi 0, vi 1, vr b1, vi 0, .unset] []) (fun _ k => XS.istore X2.here hx rfl (hb hby d9_12) rfl (l' := #[vr a0, vi 0, vi 1, vr b1, vi 0, .unset]) rfl k) ?_
    refine gb (mkF m 16 #[vr a0, vi 0, vi 1, vr b1, vi 0, .unset] [(.int 0)]) (fun _ k => XS.iload X2.here hx rfl (hb hby d9_14) rfl k) ?_
    refine gb (mkF m 17 #[vr a0, vi 0, vi 1, vr b1, vi 0, .unset] [(.int 1), (.int 0)]) (fun _ k => XS.iloadN X2.here hx rfl (hb hby d9_16) rfl k) ?_
    refine gb (mkF m 20 #[vr a0, vi 0, vi 1, vr b1, vi 0, .unset] []) (fun _ k => XS.icmpNo X2.here hx rfl (hb hby d9_17) rfl (feq (by decide : ¬ ((0 : Int32) = (1 : Int32)))).1 k) ?_
    refine gb (mkF m 21 #[vr a0, vi 0, vi 1, vr b1, vi 0, .unset] [(.ref a0)]) (fun _ k => XS.aloadN X2.here hx rfl (hb hby d9_20) rfl rfl k) ?_
    refine gb (mkF m 22 #[vr a0, vi 0, vi 1, vr b1, vi 0, .unset] [(.int 0), (.ref a0)]) (fun _ k => XS.iloadN X2.here hx rfl (hb hby d9_21) rfl k) ?_
    refine gb (mkF m 23 #[vr a0, vi 0, vi 1, vr b1, vi 0, .unset] [(.int 1), (.int 0), (.ref a0)]) (fun _ k => XS.iloadN X2.here hx rfl (hb hby d9_22) rfl k) ?_
    have f7 := (Arv.keep f3 Kc2 (ninS ne1_0 nin0))
    have O8 := (O4.keep Kc2 (allS gb1 all0))
    have K9 := (((Keep.refl h0 []).ext E1).trans Kc2 (allS (Or.inr sb1) all0))
    obtain ⟨_, _, ⟨T6, L6, k6, n6⟩, -, X6, ⟨Lc6, hQ6, l6, y6, z6⟩, st6⟩ := callS X2 hx (y := mq15) hown (mvT hZ (hW hw 77 rfl)) (mvT hZ (hW hw 78 rfl)) (mvT hZ (hW hw 47 rfl)) (mvT hZ (hW hw 79 rfl)) (by decide) (backOf (W := 0) (rm171 l Z a0' hw [] a0 ka x0 G1 w_sf T2.heap n0 O8 W f7) hZ (hW hw 79 rfl) (hW hw 47 rfl) (by decide) (by decide)) (g := (mkF m 23 #[vr a0, vi 0, vi 1, vr b1, vi 0, .unset] [(.int 1), (.int 0), (.ref a0)])) rfl (by rw [hml]; rfl) (argsL := [(.ref a0), (.int 0), (.int 1)]) (rest := []) (lenOf pd217 rfl) rfl (Nat.le_of_eq rfl) (hb hby d9_23) (fun _ _ => ⟨rfl, rfl, (by decide : 1 + 1 ≤ _), (by decide : 1 + 2 ≤ _)⟩)
    dsimp only [Pt.U, Pt.locs, Pt.cells, Pt.slots] at X6 l6 y6 z6 st6 hQ6
    subst l6 y6 z6
    obtain ⟨b_6, kb_6, rfl, N6q, Kc6, fc6_0, fc6_1⟩ := hQ6
    have N6 := Fr.app N2 N6q
    have nb10 : a0 ≠ b_6 := Nat.ne_of_lt (Nat.lt_of_lt_of_le f7.lt fc6_1)
    refine gb (mkF m 26 #[vr a0, vi 0, vi 1, vr b1, vi 0, .unset] [(.ref b_6)]) st6 ?_
    refine gb (mkF m 28 #[vr a0, vi 0, vi 1, vr b1, vi 0, vr b_6] []) (fun _ k => XS.astore X6.here hx rfl (hb hby d9_26) rfl rfl (l' := #[vr a0, vi 0, vi 1, vr b1, vi 0, vr b_6]) rfl k) ?_
    refine gb (mkF m 30 #[vr a0, vi 0, vi 1, vr b1, vi 0, vr b_6] [(.ref b_6)]) (fun _ k => XS.aload X6.here hx rfl (hb hby d9_28) rfl rfl k) ?_
    refine gb (mkF m 32 #[vr a0, vi 0, vi 1, vr b1, vi 0, vr b_6] [(.int 0), (.ref b_6)]) (fun _ k => XS.iload X6.here hx rfl (hb hby d9_30) rfl k) ?_
    have O12 := (O8.keep Kc6 all0)
    obtain ⟨_, _, ⟨T11, L11, k11, n11⟩, -, X11, ⟨Lc11, hQ11, l11, y11, z11⟩, st11⟩ := callS X6 hx (y := mq5) hown (mvT hZ (hW hw 93 rfl)) (mvT hZ (hW hw 94 rfl)) (mvT hZ (hW hw 47 rfl)) (mvT hZ (hW hw 95 rfl)) (by decide) (backOf (W := 0) (rm21 l Z a0' hw [] b_6 (0 : Int32) kb_6 (2 : Int32) [(bA x0), (bB x0)] G1 w_sf T6.heap n0 O12 W fc6_0 (by decide) (by decide)) hZ (hW hw 95 rfl) (hW hw 47 rfl) (by decide) (by decide)) (g := (mkF m 32 #[vr a0, vi 0, vi 1, vr b1, vi 0, vr b_6] [(.int 0), (.ref b_6)])) rfl (by rw [hml]; rfl) (argsL := [(.ref b_6), (.int 0)]) (rest := []) (lenOf pd69 rfl) rfl (Nat.le_of_eq rfl) (hb hby d9_32) (fun _ _ => ⟨rfl, rfl, (by decide : 2 + 0 ≤ _), (by decide : 3 + 0 ≤ _)⟩)
    dsimp only [Pt.U, Pt.locs, Pt.cells, Pt.slots] at X11 l11 y11 z11 st11 hQ11
    subst l11 y11 z11
    obtain ⟨rfl, N11q, e11⟩ := hQ11
    have N11 := Fr.app N6 N11q
    refine gb (mkF m 35 #[vr a0, vi 0, vi 1, vr b1, vi 0, vr b_6] [(.int (fn21 (0 : Int32) [(bA x0), (bB x0)] G1 w_sf))]) st11 ?_
    refine gb (mkF m 38 #[vr a0, vi 0, vi 1, vr b1, vi 0, vr b_6] [(.int 255), (.int (fn21 (0 : Int32) [(bA x0), (bB x0)] G1 w_sf))]) (fun _ k => XS.sipush X11.here hx rfl (hb hby d9_35) k) ?_
    refine gb (mkF m 54 #[vr a0, vi 0, vi 1, vr b1, vi 0, vr b_6] []) (fun _ k => XS.icmpYes X11.here hx rfl (pc0 := 38) (pc' := 54) rfl (hb hby d9_38) rfl (tlt (by rw [show (fn21 (0 : Int32) [(bA x0), (bB x0)] G1 w_sf) = nar .char x0 from at21  (i := (0 : Int32)) (congrArg (fun k => List.getD [(bA x0), (bB x0)] k 0) (by decide : ((0 : Int32) <<< ((1 : Int32) &&& 31)).toNatClampNeg = 0)) (congrArg (fun k => List.getD [(bA x0), (bB x0)] k 0) (by decide : (((0 : Int32) <<< ((1 : Int32) &&& 31)) + (1 : Int32)).toNatClampNeg = 1)), hc0]; exact hy)).2.2.1 (by decide) (by decide) k) ?_
    refine gb (mkF m 56 #[vr a0, vi 0, vi 1, vr b1, vi 0, vr b_6] [(.ref b_6)]) (fun _ k => XS.aload X11.here hx rfl (hb hby d9_54) rfl rfl k) ?_
    have K13 := (K9.trans Kc6 all0)
    exact Gl.outA X11 hx hk Bd.returns rfl rfl (hb hby d9_56) (Eq.mpr (congrArg (fun hh => Q91 Z a0 ka x0 G1 w_sf h0 n0 _ hh _) e11) (show Q91 Z a0 ka x0 G1 w_sf h0 n0 _ T6.heap _ from ⟨b_6, kb_6, rfl, N11, K13, (Nat.le_trans K9.1 fc6_1), (Or.inr ⟨(hy), fc6_0⟩)⟩)) (by decide) (by decide)
theorem ef92 (m : MethodId) (x0 : Addr) (x1 : Int32) (x2 : Int32) : entryFrame m #[(.ref x0), (.int x1), (.int x2)] 6 = mkF m 0 #[.val (.ref x0), .val (.int x1), .val (.int x2), .unset, .unset, .unset] [] := by first | (simp [entryFrame, mkF, argsToLocals, Value.category]; done) | rfl
def Q92 (Z : State) (a0 : Addr) (ka : ClassId) (x0 : Int32) (x1 : Int32) (G1 : Int32) (w_sf : Value) (h0 : Heap) (n0 : Nat) (v : Option Value) (h : Heap) (L : List Loc) : Prop := ∃ (b : Addr), ∃ (kb : ClassId), v = some (.ref b) ∧ Fr n0 L ∧ Keep h0 h [] ∧ (h0.size ≤ b) ∧ ((¬ ((255 : Int32) < x0 ∨ (255 : Int32) < x1) ∧ Arv Z h b kb .byte (2 : Int32) [(.int (bL x0)), (.int (bL x1))] (.int 0)) ∨ (((255 : Int32) < x0 ∨ (255 : Int32) < x1) ∧ Arv Z h b kb .byte (4 : Int32) [(.int (bA x0)), (.int (bB x0)), (.int (bA x1)), (.int (bB x1))] (.int 0)))
theorem rm92 (l : Launch) (Z : State) (a0' : Array Value) (hw : ∀ d ∈ tables_1, d.before a0' Z = true) (ws : List Jvm.Cond) (a0 : Addr) (ka : ClassId) (x0 : Int32) (x1 : Int32) (G1 : Int32) (w_sf : Value) (h0 : Heap) (n0 : Nat) (O : Old Z n0 h0) (W : Wd Z G1 w_sf) (pf0 : Arv Z h0 a0 ka .char (2 : Int32) [(.int x0), (.int x1)] (.int 0)) (hc0 : nar .char x0 = x0) (hc1 : nar .char x1 = x1) :
    MetFree l mq16 (head1 (Jvm.Cond.code mq16 jdk_52_method_16_code 6 (some (.array .byte)) :: ws) ({ frames := 3, cells := 2, slots := 6, locals := 40 } : Room)) (fun a U => a = #[(.ref a0), (.int 0), (.int 2)] ∧ Z.Warmed39 U.vm ∧ U.heap = h0) (fun _ _ _ _ _ => True) (fun _ U o U' => ∃ v L, o = .returned v ∧ Q92 Z a0 ka x0 x1 G1 w_sf h0 n0 v U'.heap L ∧ FrameEnd U o U' L ({ frames := 3, cells := 2, slots := 6, locals := 40 } : Room).cells ({ frames := 3, cells := 2, slots := 6, locals := 40 } : Room).slots) := by
  refine MetFree.of_bodySF (plainFor_of_name pn3) hisR ?_
  intro p e s m args below meth c s₁ Bd hml0 hP hK
  obtain ⟨rfl, hZ, hh⟩ := hP
  have hx := Bd.exec
  have hby := Bd.bytes
  have hml : c.maxLocals = 6 := hml0
  have hown : s.vm.findClass "java/lang/StringUTF16" = some m.cls := findClass_of_methodNamed Bd.named
  have hnm := (name_of_methodNamed Bd.named Bd.method).1
  have hk := Bd.notSynchronized
  have X0 : Stand p l e ({ frames := 3, cells := 2, slots := 6, locals := 40 } : Room) s m #[(.ref a0), (.int 0), (.int 2)] below meth c s₁ [] 0 0 := Stand.of_body Bd
  have hh2 := hh
  have e0 : s₁.heap = h0 := by rw [← hh, Bd.state]; rfl
  have N0 := Fr.nil n0
  show Gl p e below (Pos 2 6 (Q92 Z a0 ka x0 x1 G1 w_sf h0 n0) s) s₁ _
  refine Gl.cast (ef92 m a0 (0 : Int32) (2 : Int32)) ?_
  refine gb (mkF m 1 #[vr a0, vi 0, vi 2, .unset, .unset, .unset] [(.int 2)]) (fun _ k => XS.iloadN X0.here hx rfl (hb hby d9_0) rfl k) ?_
  obtain ⟨T1, h1, k1, X1, e1, E1, A1, st1⟩ := newP X0 hx hZ (hW hw 20 rfl) e0 (g := (mkF m 1 #[vr a0, vi 0, vi 2, .unset, .unset, .unset] [(.int 2)])) rfl (hb hby d9_1) rfl (by decide) (cap := 2) (by decide) (by decide) (by decide) (by decide)
  obtain ⟨b1, g1⟩ : ∃ z, z = (h0).size := ⟨_, rfl⟩
  rw [← g1] at A1 st1
  have gb1 : n0 ≤ b1 := Nat.le_trans (Nat.le_trans (Nat.le_of_eq O.1.symm) O.2.1) (Nat.le_of_eq g1.symm)
  have sb1 : h0.size ≤ b1 := Nat.le_trans (Keep.refl h0 []).1 (Nat.le_of_eq g1.symm)
  have ne1_0 : a0 ≠ b1 := Nat.ne_of_lt (Nat.lt_of_lt_of_le pf0.lt (Nat.le_of_eq g1.symm))
  have V1 : Arv Z h1 b1 k1 .byte (2 : Int32) [(.int 0), (.int 0)] (.int 0) := (Arv.new A1 (by decide)).pad (pad_rep [] (.int 0) 2)
  refine gb (mkF m 3 #[vr a0, vi 0, vi 2, .unset, .unset, .unset] [(.ref b1)]) st1 ?_
  refine gb (mkF m 4 #[vr a0, vi 0, vi 2, vr b1, .unset, .unset] []) (fun _ k => XS.astoreN X1.here hx rfl (hb hby d9_3) rfl rfl (l' := #[vr a0, vi 0, vi 2, vr b1, .unset, .unset]) rfl k) ?_
  refine gb (mkF m 5 #[vr a0, vi 0, vi 2, vr b1, .unset, .unset] [(.ref a0)]) (fun _ k => XS.aloadN X1.here hx rfl (hb hby d9_4) rfl rfl k) ?_
  refine gb (mkF m 6 #[vr a0, vi 0, vi 2, vr b1, .unset, .unset] [(.int 0), (.ref a0)]) (fun _ k => XS.iloadN X1.here hx rfl (hb hby d9_5) rfl k) ?_
  refine gb (mkF m 7 #[vr a0, vi 0, vi 2, vr b1, .unset, .unset] [(.ref b1), (.int 0), (.ref a0)]) (fun _ k => XS.aloadN X1.here hx rfl (hb hby d9_6) rfl rfl k) ?_
  refine gb (mkF m 8 #[vr a0, vi 0, vi 2, vr b1, .unset, .unset] [(.int 0), (.ref b1), (.int 0), (.ref a0)]) (fun _ k => XS.iconst X1.here hx rfl (hb hby d9_7) k) ?_
  refine gb (mkF m 9 #[vr a0, vi 0, vi 2, vr b1, .unset, .unset] [(.int 2), (.int 0), (.ref b1), (.int 0), (.ref a0)]) (fun _ k => XS.iloadN X1.here hx rfl (hb hby d9_8) rfl k) ?_
  have f3 := (Arv.ext pf0 E1)
  have O4 := (O.ext E1)
  obtain ⟨_, _, ⟨T2, L2, k2, n2⟩, -, X2, ⟨Lc2, hQ2, l2, y2, z2⟩, st2⟩ := callS X1 hx (y := mq11) hown (mvT hZ (hW hw 49 rfl)) (mvT hZ (hW hw 50 rfl)) (mvT hZ (hW hw 47 rfl)) (mvT hZ (hW hw 51 rfl)) (by decide) (backOf (W := 0) (rm102 l Z a0' hw [] a0 b1 ka k1 x0 x1 G1 w_sf h1 n0 O4 W f3 V1 gb1 ne1_0) hZ (hW hw 51 rfl) (hW hw 47 rfl) (by decide) (by decide)) (g := (mkF m 9 #[vr a0, vi 0, vi 2, vr b1, .unset, .unset] [(.int 2), (.int 0), (.ref b1), (.int 0), (.ref a0)])) rfl (by rw [hml]; rfl) (argsL := [(.ref a0), (.int 0), (.ref b1), (.int 0), (.int 2)]) (rest := []) (lenOf pd216 rfl) rfl (Nat.le_of_eq rfl) (hb hby d9_9) (fun _ _ => ⟨rfl, e1, (by decide : 1 + 0 ≤ _), (by decide : 2 + 0 ≤ _)⟩)
  dsimp only [Pt.U, Pt.locs, Pt.cells, Pt.slots] at X2 l2 y2 z2 st2 hQ2
  subst l2 y2 z2
  obtain ⟨r_2, rfl, N2q, Kc2, fc2_0⟩ := hQ2
  have N2 := Fr.app N0 N2q
  refine gb (mkF m 12 #[vr a0, vi 0, vi 2, vr b1, .unset, .unset] [(.int r_2)]) st2 ?_
  rcases fc2_0 with ⟨rfl, hN, hV⟩ | ⟨rfl, hy⟩ | ⟨rfl, hy⟩
  · refine gb (mkF m 14 #[vr a0, vi 0, vi 2, vr b1, vi 2, .unset] []) (fun _ k => XS.istore X2.here hx rfl (hb hby d9_12) rfl (l' := #[vr a0, vi 0, vi 2, vr b1, vi 2, .unset]) rfl k) ?_
    refine gb (mkF m 16 #[vr a0, vi 0, vi 2, vr b1, vi 2, .unset] [(.int 2)]) (fun _ k => XS.iload X2.here hx rfl (hb hby d9_14) rfl k) ?_
    refine gb (mkF m 17 #[vr a0, vi 0, vi 2, vr b1, vi 2, .unset] [(.int 2), (.int 2)]) (fun _ k => XS.iloadN X2.here hx rfl (hb hby d9_16) rfl k) ?_
    refine gb (mkF m 57 #[vr a0, vi 0, vi 2, vr b1, vi 2, .unset] []) (fun _ k => XS.icmpYes X2.here hx rfl (pc0 := 17) (pc' := 57) rfl (hb hby d9_17) rfl (teq (by decide : (2 : Int32) = (2 : Int32))).1 (by decide) (by decide) k) ?_
    refine gb (mkF m 58 #[vr a0, vi 0, vi 2, vr b1, vi 2, .unset] [(.ref b1)]) (fun _ k => XS.aloadN X2.here hx rfl (hb hby d9_57) rfl rfl k) ?_
    have K5 := (((Keep.refl h0 []).ext E1).trans Kc2 (allS (Or.inr sb1) all0))
    exact Gl.outA X2 hx hk Bd.returns rfl rfl (hb hby d9_58) ⟨b1, k1, rfl, N2, K5, sb1, (Or.inl ⟨hN, hV⟩)⟩ (by decide) (by decide)
  · refine gb (mkF m 14 #[vr a0, vi 0, vi 2, vr b1, vi 0, .unset] []) (fun _ k => XS.istore X2.here hx rfl (hb hby d9_12) rfl (l' := #[vr a0, vi 0, vi 2, vr b1, vi 0, .unset]) rfl k) ?_
    refine gb (mkF m 16 #[vr a0, vi 0, vi 2, vr b1, vi 0, .unset] [(.int 0)]) (fun _ k => XS.iload X2.here hx rfl (hb hby d9_14) rfl k) ?_
    refine gb (mkF m 17 #[vr a0, vi 0, vi 2, vr b1, vi 0, .unset] [(.int 2), (.int 0)]) (fun _ k => XS.iloadN X2.here hx rfl (hb hby d9_16) rfl k) ?_
    refine gb (mkF m 20 #[vr a0, vi 0, vi 2, vr b1, vi 0, .unset] []) (fun _ k => XS.icmpNo X2.here hx rfl (hb hby d9_17) rfl (feq (by decide : ¬ ((0 : Int32) = (2 : Int32)))).1 k) ?_
    refine gb (mkF m 21 #[vr a0, vi 0, vi 2, vr b1, vi 0, .unset] [(.ref a0)]) (fun _ k => XS.aloadN X2.here hx rfl (hb hby d9_20) rfl rfl k) ?_
    refine gb (mkF m 22 #[vr a0, vi 0, vi 2, vr b1, vi 0, .unset] [(.int 0), (.ref a0)]) (fun _ k => XS.iloadN X2.here hx rfl (hb hby d9_21) rfl k) ?_
    refine gb (mkF m 23 #[vr a0, vi 0, vi 2, vr b1, vi 0, .unset] [(.int 2), (.int 0), (.ref a0)]) (fun _ k => XS.iloadN X2.here hx rfl (hb hby d9_22) rfl k) ?_
    have f7 := (Arv.keep f3 Kc2 (ninS ne1_0 nin0))
    have O8 := (O4.keep Kc2 (allS gb1 all0))
    have K9 := (((Keep.refl h0 []).ext E1).trans Kc2 (allS (Or.inr sb1) all0))
    obtain ⟨_, _, ⟨T6, L6, k6, n6⟩, -, X6, ⟨Lc6, hQ6, l6, y6, z6⟩, st6⟩ := callS X2 hx (y := mq15) hown (mvT hZ (hW hw 77 rfl)) (mvT hZ (hW hw 78 rfl)) (mvT hZ (hW hw 47 rfl)) (mvT hZ (hW hw 79 rfl)) (by decide) (backOf (W := 0) (rm172 l Z a0' hw [] a0 ka x0 x1 G1 w_sf T2.heap n0 O8 W f7) hZ (hW hw 79 rfl) (hW hw 47 rfl) (by decide) (by decide)) (g := (mkF m 23 #[vr a0, vi 0, vi 2, vr b1, vi 0, .unset] [(.int 2), (.int 0), (.ref a0)])) rfl (by rw [hml]; rfl) (argsL := [(.ref a0), (.int 0), (.int 2)]) (rest := []) (lenOf pd217 rfl) rfl (Nat.le_of_eq rfl) (hb hby d9_23) (fun _ _ => ⟨rfl, rfl, (by decide : 1 + 1 ≤ _), (by decide : 2 + 4 ≤ _)⟩)
    dsimp only [Pt.U, Pt.locs, Pt.cells, Pt.slots] at X6 l6 y6 z6 st6 hQ6
    subst l6 y6 z6
    obtain ⟨b_6, kb_6, rfl, N6q, Kc6, fc6_0, fc6_1⟩ := hQ6
    have N6 := Fr.app N2 N6q
    have nb10 : a0 ≠ b_6 := Nat.ne_of_lt (Nat.lt_of_lt_of_le f7.lt fc6_1)
    refine gb (mkF m 26 #[vr a0, vi 0, vi 2, vr b1, vi 0, .unset] [(.ref b_6)]) st6 ?_
    refine gb (mkF m 28 #[vr a0, vi 0, vi 2, vr b1, vi 0, vr b_6] []) (fun _ k => XS.astore X6.here hx rfl (hb hby d9_26) rfl rfl (l' := #[vr a0, vi 0, vi 2, vr b1, vi 0, vr b_6]) rfl k) ?_
    refine gb (mkF m 30 #[vr a0, vi 0, vi 2, vr b1, vi 0, vr b_6] [(.ref b_6)]) (fun _ k => XS.aload X6.here hx rfl (hb hby d9_28) rfl rfl k) ?_
    refine gb (mkF m 32 #[vr a0, vi 0, vi 2, vr b1, vi 0, vr b_6] [(.int 0), (.ref b_6)]) (fun _ k => XS.iload X6.here hx rfl (hb hby d9_30) rfl k) ?_
    have O12 := (O8.keep Kc6 all0)
    obtain ⟨_, _, ⟨T11, L11, k11, n11⟩, -, X11, ⟨Lc11, hQ11, l11, y11, z11⟩, st11⟩ := callS X6 hx (y := mq5) hown (mvT hZ (hW hw 93 rfl)) (mvT hZ (hW hw 94 rfl)) (mvT hZ (hW hw 47 rfl)) (mvT hZ (hW hw 95 rfl)) (by decide) (backOf (W := 0) (rm21 l Z a0' hw [] b_6 (0 : Int32) kb_6 (4 : Int32) [(bA x0), (bB x0), (bA x1), (bB x1)] G1 w_sf T6.heap n0 O12 W fc6_0 (by decide) (by decide)) hZ (hW hw 95 rfl) (hW hw 47 rfl) (by decide) (by decide)) (g := (mkF m 32 #[vr a0, vi 0, vi 2, vr b1, vi 0, vr b_6] [(.int 0), (.ref b_6)])) rfl (by rw [hml]; rfl) (argsL := [(.ref b_6), (.int 0)]) (rest := []) (lenOf pd69 rfl) rfl (Nat.le_of_eq rfl) (hb hby d9_32) (fun _ _ => ⟨rfl, rfl, (by decide : 2 + 0 ≤ _), (by decide : 6 + 0 ≤ _)⟩)
    dsimp only [Pt.U, Pt.locs, Pt.cells, Pt.slots] at X11 l11 y11 z11 st11 hQ11
    subst l11 y11 z11
    obtain ⟨rfl, N11q, e11⟩ := hQ11
    have N11 := Fr.app N6 N11q
    refine gb (mkF m 35 #[vr a0, vi 0, vi 2, vr b1, vi 0, vr b_6] [(.int (fn21 (0 : Int32) [(bA x0), (bB x0), (bA x1), (bB x1)] G1 w_sf))]) st11 ?_
    refine gb (mkF m 38 #[vr a0, vi 0, vi 2, vr b1, vi 0, vr b_6] [(.int 255), (.int (fn21 (0 : Int32) [(bA x0), (bB x0), (bA x1), (bB x1)] G1 w_sf))]) (fun _ k => XS.sipush X11.here hx rfl (hb hby d9_35) k) ?_
    refine gb (mkF m 54 #[vr a0, vi 0, vi 2, vr b1, vi 0, vr b_6] []) (fun _ k => XS.icmpYes X11.here hx rfl (pc0 := 38) (pc' := 54) rfl (hb hby d9_38) rfl (tlt (by rw [show (fn21 (0 : Int32) [(bA x0), (bB x0), (bA x1), (bB x1)] G1 w_sf) = nar .char x0 from at21  (i := (0 : Int32)) (congrArg (fun k => List.getD [(bA x0), (bB x0), (bA x1), (bB x1)] k 0) (by decide : ((0 : Int32) <<< ((1 : Int32) &&& 31)).toNatClampNeg = 0)) (congrArg (fun k => List.getD [(bA x0), (bB x0), (bA x1), (bB x1)] k 0) (by decide : (((0 : Int32) <<< ((1 : Int32) &&& 31)) + (1 : Int32)).toNatClampNeg = 1)), hc0]; exact hy)).2.2.1 (by decide) (by decide) k) ?_
    refine gb (mkF m 56 #[vr a0, vi 0, vi 2, vr b1, vi 0, vr b_6] [(.ref b_6)]) (fun _ k => XS.aload X11.here hx rfl (hb hby d9_54) rfl rfl k) ?_
    have K13 := (K9.trans Kc6 all0)
    exact Gl.outA X11 hx hk Bd.returns rfl rfl (hb hby d9_56) (Eq.mpr (congrArg (fun hh => Q92 Z a0 ka x0 x1 G1 w_sf h0 n0 _ hh _) e11) (show Q92 Z a0 ka x0 x1 G1 w_sf h0 n0 _ T6.heap _ from ⟨b_6, kb_6, rfl, N11, K13, (Nat.le_trans K9.1 fc6_1), (Or.inr ⟨(Or.inl hy), fc6_0⟩)⟩)) (by decide) (by decide)
  · refine gb (mkF m 14 #[vr a0, vi 0, vi 2, vr b1, vi 1, .unset] []) (fun _ k => XS.istore X2.here hx rfl (hb hby d9_12) rfl (l' := #[vr a0, vi 0, vi 2, vr b1, vi 1, .unset]) rfl k) ?_
    refine gb (mkF m 16 #[vr a0, vi 0, vi 2, vr b1, vi 1, .unset] [(.int 1)]) (fun _ k => XS.iload X2.here hx rfl (hb hby d9_14) rfl k) ?_
    refine gb (mkF m 17 #[vr a0, vi 0, vi 2, vr b1, vi 1, .unset] [(.int 2), (.int 1)]) (fun _ k => XS.iloadN X2.here hx rfl (hb hby d9_16) rfl k) ?_
    refine gb (mkF m 20 #[vr a0, vi 0, vi 2, vr b1, vi 1, .unset] []) (fun _ k => XS.icmpNo X2.here hx rfl (hb hby d9_17) rfl (feq (by decide : ¬ ((1 : Int32) = (2 : Int32)))).1 k) ?_
    refine gb (mkF m 21 #[vr a0, vi 0, vi 2, vr b1, vi 1, .unset] [(.ref a0)]) (fun _ k => XS.aloadN X2.here hx rfl (hb hby d9_20) rfl rfl k) ?_
    refine gb (mkF m 22 #[vr a0, vi 0, vi 2, vr b1, vi 1, .unset] [(.int 0), (.ref a0)]) (fun _ k => XS.iloadN X2.here hx rfl (hb hby d9_21) rfl k) ?_
    refine gb (mkF m 23 #[vr a0, vi 0, vi 2, vr b1, vi 1, .unset] [(.int 2), (.int 0), (.ref a0)]) (fun _ k => XS.iloadN X2.here hx rfl (hb hby d9_22) rfl k) ?_
    have f15 := (Arv.keep f3 Kc2 (ninS ne1_0 nin0))
    have O16 := (O4.keep Kc2 (allS gb1 all0))
    have K17 := (((Keep.refl h0 []).ext E1).trans Kc2 (allS (Or.inr sb1) all0))
    obtain ⟨_, _, ⟨T14, L14, k14, n14⟩, -, X14, ⟨Lc14, hQ14, l14, y14, z14⟩, st14⟩ := callS X2 hx (y := mq15) hown (mvT hZ (hW hw 77 rfl)) (mvT hZ (hW hw 78 rfl)) (mvT hZ (hW hw 47 rfl)) (mvT hZ (hW hw 79 rfl)) (by decide) (backOf (W := 0) (rm172 l Z a0' hw [] a0 ka x0 x1 G1 w_sf T2.heap n0 O16 W f15) hZ (hW hw 79 rfl) (hW hw 47 rfl) (by decide) (by decide)) (g := (mkF m 23 #[vr a0, vi 0, vi 2, vr b1, vi 1, .unset] [(.int 2), (.int 0), (.ref a0)])) rfl (by rw [hml]; rfl) (argsL := [(.ref a0), (.int 0), (.int 2)]) (rest := []) (lenOf pd217 rfl) rfl (Nat.le_of_eq rfl) (hb hby d9_23) (fun _ _ => ⟨rfl, rfl, (by decide : 1 + 1 ≤ _), (by decide : 2 + 4 ≤ _)⟩)
    dsimp only [Pt.U, Pt.locs, Pt.cells, Pt.slots] at X14 l14 y14 z14 st14 hQ14
    subst l14 y14 z14
    obtain ⟨b_14, kb_14, rfl, N14q, Kc14, fc14_0, fc14_1⟩ := hQ14
    have N14 := Fr.app N2 N14q
    have nb18 : a0 ≠ b_14 := Nat.ne_of_lt (Nat.lt_of_lt_of_le f15.lt fc14_1)
    refine gb (mkF m 26 #[vr a0, vi 0, vi 2, vr b1, vi 1, .unset] [(.ref b_14)]) st14 ?_
    refine gb (mkF m 28 #[vr a0, vi 0, vi 2, vr b1, vi 1, vr b_14] []) (fun _ k => XS.astore X14.here hx rfl (hb hby d9_26) rfl rfl (l' := #[vr a0, vi 0, vi 2, vr b1, vi 1, vr b_14]) rfl k) ?_
    refine gb (mkF m 30 #[vr a0, vi 0, vi 2, vr b1, vi 1, vr b_14] [(.ref b_14)]) (fun _ k => XS.aload X14.here hx rfl (hb hby d9_28) rfl rfl k) ?_
    refine gb (mkF m 32 #[vr a0, vi 0, vi 2, vr b1, vi 1, vr b_14] [(.int 1), (.ref b_14)]) (fun _ k => XS.iload X14.here hx rfl (hb hby d9_30) rfl k) ?_
    have O20 := (O16.keep Kc14 all0)
    obtain ⟨_, _, ⟨T19, L19, k19, n19⟩, -, X19, ⟨Lc19, hQ19, l19, y19, z19⟩, st19⟩ := callS X14 hx (y := mq5) hown (mvT hZ (hW hw 93 rfl)) (mvT hZ (hW hw 94 rfl)) (mvT hZ (hW hw 47 rfl)) (mvT hZ (hW hw 95 rfl)) (by decide) (backOf (W := 0) (rm21 l Z a0' hw [] b_14 (1 : Int32) kb_14 (4 : Int32) [(bA x0), (bB x0), (bA x1), (bB x1)] G1 w_sf T14.heap n0 O20 W fc14_0 (by decide) (by decide)) hZ (hW hw 95 rfl) (hW hw 47 rfl) (by decide) (by decide)) (g := (mkF m 32 #[vr a0, vi 0, vi 2, vr b1, vi 1, vr b_14] [(.int 1), (.ref b_14)])) rfl (by rw [hml]; rfl) (argsL := [(.ref b_14), (.int 1)]) (rest := []) (lenOf pd69 rfl) rfl (Nat.le_of_eq rfl) (hb hby d9_32) (fun _ _ => ⟨rfl, rfl, (by decide : 2 + 0 ≤ _), (by decide : 6 + 0 ≤ _)⟩)
    dsimp only [Pt.U, Pt.locs, Pt.cells, Pt.slots] at X19 l19 y19 z19 st19 hQ19
    subst l19 y19 z19
    obtain ⟨rfl, N19q, e19⟩ := hQ19
    have N19 := Fr.app N14 N19q
    refine gb (mkF m 35 #[vr a0, vi 0, vi 2, vr b1, vi 1, vr b_14] [(.int (fn21 (1 : Int32) [(bA x0), (bB x0), (bA x1), (bB x1)] G1 w_sf))]) st19 ?_
    refine gb (mkF m 38 #[vr a0, vi 0, vi 2, vr b1, vi 1, vr b_14] [(.int 255), (.int (fn21 (1 : Int32) [(bA x0), (bB x0), (bA x1), (bB x1)] G1 w_sf))]) (fun _ k => XS.sipush X19.here hx rfl (hb hby d9_35) k) ?_
    refine gb (mkF m 54 #[vr a0, vi 0, vi 2, vr b1, vi 1, vr b_14] []) (fun _ k => XS.icmpYes X19.here hx rfl (pc0 := 38) (pc' := 54) rfl (hb hby d9_38) rfl (tlt (by rw [show (fn21 (1 : Int32) [(bA x0), (bB x0), (bA x1), (bB x1)] G1 w_sf) = nar .char x1 from at21  (i := (1 : Int32)) (congrArg (fun k => List.getD [(bA x0), (bB x0), (bA x1), (bB x1)] k 0) (by decide : ((1 : Int32) <<< ((1 : Int32) &&& 31)).toNatClampNeg = 2)) (congrArg (fun k => List.getD [(bA x0), (bB x0), (bA x1), (bB x1)] k 0) (by decide : (((1 : Int32) <<< ((1 : Int32) &&& 31)) + (1 : Int32)).toNatClampNeg = 3)), hc1]; exact hy)).2.2.1 (by decide) (by decide) k) ?_
    refine gb (mkF m 56 #[vr a0, vi 0, vi 2, vr b1, vi 1, vr b_14] [(.ref b_14)]) (fun _ k => XS.aload X19.here hx rfl (hb hby d9_54) rfl rfl k) ?_
    have K21 := (K17.trans Kc14 all0)
    exact Gl.outA X19 hx hk Bd.returns rfl rfl (hb hby d9_56) (Eq.mpr (congrArg (fun hh => Q92 Z a0 ka x0 x1 G1 w_sf h0 n0 _ hh _) e19) (show Q92 Z a0 ka x0 x1 G1 w_sf h0 n0 _ T14.heap _ from ⟨b_14, kb_14, rfl, N19, K21, (Nat.le_trans K17.1 fc14_1), (Or.inr ⟨(Or.inr (hy)), fc14_0⟩)⟩)) (by decide) (by decide)
theorem ef93 (m : MethodId) (x0 : Addr) (x1 : Int32) (x2 : Int32) : entryFrame m #[(.ref x0), (.int x1), (.int x2)] 6 = mkF m 0 #[.val (.ref x0), .val (.int x1), .val (.int x2), .unset, .unset, .unset] [] := by first | (simp [entryFrame, mkF, argsToLocals, Value.category]; done) | rfl
def Q93 (Z : State) (a0 : Addr) (ka : ClassId) (x0 : Int32) (x1 : Int32) (x2 : Int32) (G1 : Int32) (w_sf : Value) (h0 : Heap) (n0 : Nat) (v : Option Value) (h : Heap) (L : List Loc) : Prop := ∃ (b : Addr), ∃ (kb : ClassId), v = some (.ref b) ∧ Fr n0 L ∧ Keep h0 h [] ∧ (h0.size ≤ b) ∧ ((¬ ((255 : Int32) < x0 ∨ (255 : Int32) < x1 ∨ (255 : Int32) < x2) ∧ Arv Z h b kb .byte (3 : Int32) [(.int (bL x0)), (.int (bL x1)), (.int (bL x2))] (.int 0)) ∨ (((255 : Int32) < x0 ∨ (255 : Int32) < x1 ∨ (255 : Int32) < x2) ∧ Arv Z h b kb .byte (6 : Int32) [(.int (bA x0)), (.int (bB x0)), (.int (bA x1)), (.int (bB x1)), (.int (bA x2)), (.int (bB x2))] (.int 0)))
theorem rm93 (l : Launch) (Z : State) (a0' : Array Value) (hw : ∀ d ∈ tables_1, d.before a0' Z = true) (ws : List Jvm.Cond) (a0 : Addr) (ka : ClassId) (x0 : Int32) (x1 : Int32) (x2 : Int32) (G1 : Int32) (w_sf : Value) (h0 : Heap) (n0 : Nat) (O : Old Z n0 h0) (W : Wd Z G1 w_sf) (pf0 : Arv Z h0 a0 ka .char (3 : Int32) [(.int x0), (.int x1), (.int x2)] (.int 0)) (hc0 : nar .char x0 = x0) (hc1 : nar .char x1 = x1) (hc2 : nar .char x2 = x2) :
    MetFree l mq16 (head1 (Jvm.Cond.code mq16 jdk_52_method_16_code 6 (some (.array .byte)) :: ws) ({ frames := 3, cells := 2, slots := 9, locals := 40 } : Room)) (fun a U => a = #[(.ref a0), (.int 0), (.int 3)] ∧ Z.Warmed39 U.vm ∧ U.heap = h0) (fun _ _ _ _ _ => True) (fun _ U o U' => ∃ v L, o = .returned v ∧ Q93 Z a0 ka x0 x1 x2 G1 w_sf h0 n0 v U'.heap L ∧ FrameEnd U o U' L ({ frames := 3, cells := 2, slots := 9, locals := 40 } : Room).cells ({ frames := 3, cells := 2, slots := 9, locals := 40 } : Room).slots) := by
  refine MetFree.of_bodySF (plainFor_of_name pn3) hisR ?_
  intro p e s m args below meth c s₁ Bd hml0 hP hK
  obtain ⟨rfl, hZ, hh⟩ := hP
  have hx := Bd.exec
  have hby := Bd.bytes
  have hml : c.maxLocals = 6 := hml0
  have hown : s.vm.findClass "java/lang/StringUTF16" = some m.cls := findClass_of_methodNamed Bd.named
  have hnm := (name_of_methodNamed Bd.named Bd.method).1
  have hk := Bd.notSynchronized
  have X0 : Stand p l e ({ frames := 3, cells := 2, slots := 9, locals := 40 } : Room) s m #[(.ref a0), (.int 0), (.int 3)] below meth c s₁ [] 0 0 := Stand.of_body Bd
  have hh2 := hh
  have e0 : s₁.heap = h0 := by rw [← hh, Bd.state]; rfl
  have N0 := Fr.nil n0
  show Gl p e below (Pos 2 9 (Q93 Z a0 ka x0 x1 x2 G1 w_sf h0 n0) s) s₁ _
  refine Gl.cast (ef93 m a0 (0 : Int32) (3 : Int32)) ?_
  refine gb (mkF m 1 #[vr a0, vi 0, vi 3, .unset, .unset, .unset] [(.int 3)]) (fun _ k => XS.iloadN X0.here hx rfl (hb hby d9_0) rfl k) ?_
  obtain ⟨T1, h1, k1, X1, e1, E1, A1, st1⟩ := newP X0 hx hZ (hW hw 20 rfl) e0 (g := (mkF m 1 #[vr a0, vi 0, vi 3, .unset, .unset, .unset] [(.int 3)])) rfl (hb hby d9_1) rfl (by decide) (cap := 3) (by decide) (by decide) (by decide) (by decide)
  obtain ⟨b1, g1⟩ : ∃ z, z = (h0).size := ⟨_, rfl⟩
  rw [← g1] at A1 st1
  have gb1 : n0 ≤ b1 := Nat.le_trans (Nat.le_trans (Nat.le_of_eq O.1.symm) O.2.1) (Nat.le_of_eq g1.symm)
  have sb1 : h0.size ≤ b1 := Nat.le_trans (Keep.refl h0 []).1 (Nat.le_of_eq g1.symm)
  have ne1_0 : a0 ≠ b1 := Nat.ne_of_lt (Nat.lt_of_lt_of_le pf0.lt (Nat.le_of_eq g1.symm))
  have V1 : Arv Z h1 b1 k1 .byte (3 : Int32) [(.int 0), (.int 0), (.int 0)] (.int 0) := (Arv.new A1 (by decide)).pad (pad_rep [] (.int 0) 3)
  refine gb (mkF m 3 #[vr a0, vi 0, vi 3, .unset, .unset, .unset] [(.ref b1)]) st1 ?_
  refine gb (mkF m 4 #[vr a0, vi 0, vi 3, vr b1, .unset, .unset] []) (fun _ k => XS.astoreN X1.here hx rfl (hb hby d9_3) rfl rfl (l' := #[vr a0, vi 0, vi 3, vr b1, .unset, .unset]) rfl k) ?_
  refine gb (mkF m 5 #[vr a0, vi 0, vi 3, vr b1, .unset, .unset] [(.ref a0)]) (fun _ k => XS.aloadN X1.here hx rfl (hb hby d9_4) rfl rfl k) ?_
  refine gb (mkF m 6 #[vr a0, vi 0, vi 3, vr b1, .unset, .unset] [(.int 0), (.ref a0)]) (fun _ k => XS.iloadN X1.here hx rfl (hb hby d9_5) rfl k) ?_
  refine gb (mkF m 7 #[vr a0, vi 0, vi 3, vr b1, .unset, .unset] [(.ref b1), (.int 0), (.ref a0)]) (fun _ k => XS.aloadN X1.here hx rfl (hb hby d9_6) rfl rfl k) ?_
  refine gb (mkF m 8 #[vr a0, vi 0, vi 3, vr b1, .unset, .unset] [(.int 0), (.ref b1), (.int 0), (.ref a0)]) (fun _ k => XS.iconst X1.here hx rfl (hb hby d9_7) k) ?_
  refine gb (mkF m 9 #[vr a0, vi 0, vi 3, vr b1, .unset, .unset] [(.int 3), (.int 0), (.ref b1), (.int 0), (.ref a0)]) (fun _ k => XS.iloadN X1.here hx rfl (hb hby d9_8) rfl k) ?_
  have f3 := (Arv.ext pf0 E1)
  have O4 := (O.ext E1)
  obtain ⟨_, _, ⟨T2, L2, k2, n2⟩, -, X2, ⟨Lc2, hQ2, l2, y2, z2⟩, st2⟩ := callS X1 hx (y := mq11) hown (mvT hZ (hW hw 49 rfl)) (mvT hZ (hW hw 50 rfl)) (mvT hZ (hW hw 47 rfl)) (mvT hZ (hW hw 51 rfl)) (by decide) (backOf (W := 0) (rm103 l Z a0' hw [] a0 b1 ka k1 x0 x1 x2 G1 w_sf h1 n0 O4 W f3 V1 gb1 ne1_0) hZ (hW hw 51 rfl) (hW hw 47 rfl) (by decide) (by decide)) (g := (mkF m 9 #[vr a0, vi 0, vi 3, vr b1, .unset, .unset] [(.int 3), (.int 0), (.ref b1), (.int 0), (.ref a0)])) rfl (by rw [hml]; rfl) (argsL := [(.ref a0), (.int 0), (.ref b1), (.int 0), (.int 3)]) (rest := []) (lenOf pd216 rfl) rfl (Nat.le_of_eq rfl) (hb hby d9_9) (fun _ _ => ⟨rfl, e1, (by decide : 1 + 0 ≤ _), (by decide : 3 + 0 ≤ _)⟩)
  dsimp only [Pt.U, Pt.locs, Pt.cells, Pt.slots] at X2 l2 y2 z2 st2 hQ2
  subst l2 y2 z2
  obtain ⟨r_2, rfl, N2q, Kc2, fc2_0⟩ := hQ2
  have N2 := Fr.app N0 N2q
  refine gb (mkF m 12 #[vr a0, vi 0, vi 3, vr b1, .unset, .unset] [(.int r_2)]) st2 ?_
  rcases fc2_0 with ⟨rfl, hN, hV⟩ | ⟨rfl, hy⟩ | ⟨rfl, hy⟩ | ⟨rfl, hy⟩
  · refine gb (mkF m 14 #[vr a0, vi 0, vi 3, vr b1, vi 3, .unset] []) (fun _ k => XS.istore X2.here hx rfl (hb hby d9_12) rfl (l' := #[vr a0, vi 0, vi 3, vr b1, vi 3, .unset]) rfl k) ?_
    refine gb (mkF m 16 #[vr a0, vi 0, vi 3, vr b1, vi 3, .unset] [(.int 3)]) (fun _ k => XS.iload X2.here hx rfl (hb hby d9_14) rfl k) ?_
    refine gb (mkF m 17 #[vr a0, vi 0, vi 3, vr b1, vi 3, .unset] [(.int 3), (.int 3)]) (fun _ k => XS.iloadN X2.here hx rfl (hb hby d9_16) rfl k) ?_
    refine gb (mkF m 57 #[vr a0, vi 0, vi 3, vr b1, vi 3, .unset] []) (fun _ k => XS.icmpYes X2.here hx rfl (pc0 := 17) (pc' := 57) rfl (hb hby d9_17) rfl (teq (by decide : (3 : Int32) = (3 : Int32))).1 (by decide) (by decide) k) ?_
    refine gb (mkF m 58 #[vr a0, vi 0, vi 3, vr b1, vi 3, .unset] [(.ref b1)]) (fun _ k => XS.aloadN X2.here hx rfl (hb hby d9_57) rfl rfl k) ?_
    have K5 := (((Keep.refl h0 []).ext E1).trans Kc2 (allS (Or.inr sb1) all0))
    exact Gl.outA X2 hx hk Bd.returns rfl rfl (hb hby d9_58) ⟨b1, k1, rfl, N2, K5, sb1, (Or.inl ⟨hN, hV⟩)⟩ (by decide) (by decide)
  · refine gb (mkF m 14 #[vr a0, vi 0, vi 3, vr b1, vi 0, .unset] []) (fun _ k => XS.istore X2.here hx rfl (hb hby d9_12) rfl (l' := #[vr a0, vi 0, vi 3, vr b1, vi 0, .unset]) rfl k) ?_
    refine gb (mkF m 16 #[vr a0, vi 0, vi 3, vr b1, vi 0, .unset] [(.int 0)]) (fun _ k => XS.iload X2.here hx rfl (hb hby d9_14) rfl k) ?_
    refine gb (mkF m 17 #[vr a0, vi 0, vi 3, vr b1, vi 0, .unset] [(.int 3), (.int 0)]) (fun _ k => XS.iloadN X2.here hx rfl (hb hby d9_16) rfl k) ?_
    refine gb (mkF m 20 #[vr a0, vi 0, vi 3, vr b1, vi 0, .unset] []) (fun _ k => XS.icmpNo X2.here hx rfl (hb hby d9_17) rfl (feq (by decide : ¬ ((0 : Int32) = (3 : Int32)))).1 k) ?_
    refine gb (mkF m 21 #[vr a0, vi 0, vi 3, vr b1, vi 0, .unset] [(.ref a0)]) (fun _ k => XS.aloadN X2.here hx rfl (hb hby d9_20) rfl rfl k) ?_
    refine gb (mkF m 22 #[vr a0, vi 0, vi 3, vr b1, vi 0, .unset] [(.int 0), (.ref a0)]) (fun _ k => XS.iloadN X2.here hx rfl (hb hby d9_21) rfl k) ?_
    refine gb (mkF m 23 #[vr a0, vi 0, vi 3, vr b1, vi 0, .unset] [(.int 3), (.int 0), (.ref a0)]) (fun _ k => XS.iloadN X2.here hx rfl (hb hby d9_22) rfl k) ?_
    have f7 := (Arv.keep f3 Kc2 (ninS ne1_0 nin0))
    have O8 := (O4.keep Kc2 (allS gb1 all0))
    have K9 := (((Keep.refl h0 []).ext E1).trans Kc2 (allS (Or.inr sb1) all0))
    obtain ⟨_, _, ⟨T6, L6, k6, n6⟩, -, X6, ⟨Lc6, hQ6, l6, y6, z6⟩, st6⟩ := callS X2 hx (y := mq15) hown (mvT hZ (hW hw 77 rfl)) (mvT hZ (hW hw 78 rfl)) (mvT hZ (hW hw 47 rfl)) (mvT hZ (hW hw 79 rfl)) (by decide) (backOf (W := 0) (rm173 l Z a0' hw [] a0 ka x0 x1 x2 G1 w_sf T2.heap n0 O8 W f7) hZ (hW hw 79 rfl) (hW hw 47 rfl) (by decide) (by decide)) (g := (mkF m 23 #[vr a0, vi 0, vi 3, vr b1, vi 0, .unset] [(.int 3), (.int 0), (.ref a0)])) rfl (by rw [hml]; rfl) (argsL := [(.ref a0), (.int 0), (.int 3)]) (rest := []) (lenOf pd217 rfl) rfl (Nat.le_of_eq rfl) (hb hby d9_23) (fun _ _ => ⟨rfl, rfl, (by decide : 1 + 1 ≤ _), (by decide : 3 + 6 ≤ _)⟩)
    dsimp only [Pt.U, Pt.locs, Pt.cells, Pt.slots] at X6 l6 y6 z6 st6 hQ6
    subst l6 y6 z6
    obtain ⟨b_6, kb_6, rfl, N6q, Kc6, fc6_0, fc6_1⟩ := hQ6
    have N6 := Fr.app N2 N6q
    have nb10 : a0 ≠ b_6 := Nat.ne_of_lt (Nat.lt_of_lt_of_le f7.lt fc6_1)
    refine gb (mkF m 26 #[vr a0, vi 0, vi 3, vr b1, vi 0, .unset] [(.ref b_6)]) st6 ?_
    refine gb (mkF m 28 #[vr a0, vi 0, vi 3, vr b1, vi 0, vr b_6] []) (fun _ k => XS.astore X6.here hx rfl (hb hby d9_26) rfl rfl (l' := #[vr a0, vi 0, vi 3, vr b1, vi 0, vr b_6]) rfl k) ?_
    refine gb (mkF m 30 #[vr a0, vi 0, vi 3, vr b1, vi 0, vr b_6] [(.ref b_6)]) (fun _ k => XS.aload X6.here hx rfl (hb hby d9_28) rfl rfl k) ?_
    refine gb (mkF m 32 #[vr a0, vi 0, vi 3, vr b1, vi 0, vr b_6] [(.int 0), (.ref b_6)]) (fun _ k => XS.iload X6.here hx rfl (hb hby d9_30) rfl k) ?_
    have O12 := (O8.keep Kc6 all0)
    obtain ⟨_, _, ⟨T11, L11, k11, n11⟩, -, X11, ⟨Lc11, hQ11, l11, y11, z11⟩, st11⟩ := callS X6 hx (y := mq5) hown (mvT hZ (hW hw 93 rfl)) (mvT hZ (hW hw 94 rfl)) (mvT hZ (hW hw 47 rfl)) (mvT hZ (hW hw 95 rfl)) (by decide) (backOf (W := 0) (rm21 l Z a0' hw [] b_6 (0 : Int32) kb_6 (6 : Int32) [(bA x0), (bB x0), (bA x1), (bB x1), (bA x2), (bB x2)] G1 w_sf T6.heap n0 O12 W fc6_0 (by decide) (by decide)) hZ (hW hw 95 rfl) (hW hw 47 rfl) (by decide) (by decide)) (g := (mkF m 32 #[vr a0, vi 0, vi 3, vr b1, vi 0, vr b_6] [(.int 0), (.ref b_6)])) rfl (by rw [hml]; rfl) (argsL := [(.ref b_6), (.int 0)]) (rest := []) (lenOf pd69 rfl) rfl (Nat.le_of_eq rfl) (hb hby d9_32) (fun _ _ => ⟨rfl, rfl, (by decide : 2 + 0 ≤ _), (by decide : 9 + 0 ≤ _)⟩)
    dsimp only [Pt.U, Pt.locs, Pt.cells, Pt.slots] at X11 l11 y11 z11 st11 hQ11
    subst l11 y11 z11
    obtain ⟨rfl, N11q, e11⟩ := hQ11
    have N11 := Fr.app N6 N11q
    refine gb (mkF m 35 #[vr a0, vi 0, vi 3, vr b1, vi 0, vr b_6] [(.int (fn21 (0 : Int32) [(bA x0), (bB x0), (bA x1), (bB x1), (bA x2), (bB x2)] G1 w_sf))]) st11 ?_
    refine gb (mkF m 38 #[vr a0, vi 0, vi 3, vr b1, vi 0, vr b_6] [(.int 255), (.int (fn21 (0 : Int32) [(bA x0), (bB x0), (bA x1), (bB x1), (bA x2), (bB x2)] G1 w_sf))]) (fun _ k => XS.sipush X11.here hx rfl (hb hby d9_35) k) ?_
    refine gb (mkF m 54 #[vr a0, vi 0, vi 3, vr b1, vi 0, vr b_6] []) (fun _ k => XS.icmpYes X11.here hx rfl (pc0 := 38) (pc' := 54) rfl (hb hby d9_38) rfl (tlt (by rw [show (fn21 (0 : Int32) [(bA x0), (bB x0), (bA x1), (bB x1), (bA x2), (bB x2)] G1 w_sf) = nar .char x0 from at21  (i := (0 : Int32)) (congrArg (fun k => List.getD [(bA x0), (bB x0), (bA x1), (bB x1), (bA x2), (bB x2)] k 0) (by decide : ((0 : Int32) <<< ((1 : Int32) &&& 31)).toNatClampNeg = 0)) (congrArg (fun k => List.getD [(bA x0), (bB x0), (bA x1), (bB x1), (bA x2), (bB x2)] k 0) (by decide : (((0 : Int32) <<< ((1 : Int32) &&& 31)) + (1 : Int32)).toNatClampNeg = 1)), hc0]; exact hy)).2.2.1 (by decide) (by decide) k) ?_
    refine gb (mkF m 56 #[vr a0, vi 0, vi 3, vr b1, vi 0, vr b_6] [(.ref b_6)]) (fun _ k => XS.aload X11.here hx rfl (hb hby d9_54) rfl rfl k) ?_
    have K13 := (K9.trans Kc6 all0)
    exact Gl.outA X11 hx hk Bd.returns rfl rfl (hb hby d9_56) (Eq.mpr (congrArg (fun hh => Q93 Z a0 ka x0 x1 x2 G1 w_sf h0 n0 _ hh _) e11) (show Q93 Z a0 ka x0 x1 x2 G1 w_sf h0 n0 _ T6.heap _ from ⟨b_6, kb_6, rfl, N11, K13, (Nat.le_trans K9.1 fc6_1), (Or.inr ⟨(Or.inl hy), fc6_0⟩)⟩)) (by decide) (by decide)
  · refine gb (mkF m 14 #[vr a0, vi 0, vi 3, vr b1, vi 1, .unset] []) (fun _ k => XS.istore X2.here hx rfl (hb hby d9_12) rfl (l' := #[vr a0, vi 0, vi 3, vr b1, vi 1, .unset]) rfl k) ?_
    refine gb (mkF m 16 #[vr a0, vi 0, vi 3, vr b1, vi 1, .unset] [(.int 1)]) (fun _ k => XS.iload X2.here hx rfl (hb hby d9_14) rfl k) ?_
    refine gb (mkF m 17 #[vr a0, vi 0, vi 3, vr b1, vi 1, .unset] [(.int 3), (.int 1)]) (fun _ k => XS.iloadN X2.here hx rfl (hb hby d9_16) rfl k) ?_
    refine gb (mkF m 20 #[vr a0, vi 0, vi 3, vr b1, vi 1, .unset] []) (fun _ k => XS.icmpNo X2.here hx rfl (hb hby d9_17) rfl (feq (by decide : ¬ ((1 : Int32) = (3 : Int32)))).1 k) ?_
    refine gb (mkF m 21 #[vr a0, vi 0, vi 3, vr b1, vi 1, .unset] [(.ref a0)]) (fun _ k => XS.aloadN X2.here hx rfl (hb hby d9_20) rfl rfl k) ?_
    refine gb (mkF m 22 #[vr a0, vi 0, vi 3, vr b1, vi 1, .unset] [(.int 0), (.ref a0)]) (fun _ k => XS.iloadN X2.here hx rfl (hb hby d9_21) rfl k) ?_
    refine gb (mkF m 23 #[vr a0, vi 0, vi 3, vr b1, vi 1, .unset] [(.int 3), (.int 0), (.ref a0)]) (fun _ k => XS.iloadN X2.here hx rfl (hb hby d9_22) rfl k) ?_
    have f15 := (Arv.keep f3 Kc2 (ninS ne1_0 nin0))
    have O16 := (O4.keep Kc2 (allS gb1 all0))
    have K17 := (((Keep.refl h0 []).ext E1).trans Kc2 (allS (Or.inr sb1) all0))
    obtain ⟨_, _, ⟨T14, L14, k14, n14⟩, -, X14, ⟨Lc14, hQ14, l14, y14, z14⟩, st14⟩ := callS X2 hx (y := mq15) hown (mvT hZ (hW hw 77 rfl)) (mvT hZ (hW hw 78 rfl)) (mvT hZ (hW hw 47 rfl)) (mvT hZ (hW hw 79 rfl)) (by decide) (backOf (W := 0) (rm173 l Z a0' hw [] a0 ka x0 x1 x2 G1 w_sf T2.heap n0 O16 W f15) hZ (hW hw 79 rfl) (hW hw 47 rfl) (by decide) (by decide)) (g := (mkF m 23 #[vr a0, vi 0, vi 3, vr b1, vi 1, .unset] [(.int 3), (.int 0), (.ref a0)])) rfl (by rw [hml]; rfl) (argsL := [(.ref a0), (.int 0), (.int 3)]) (rest := []) (lenOf pd217 rfl) rfl (Nat.le_of_eq rfl) (hb hby d9_23) (fun _ _ => ⟨rfl, rfl, (by decide : 1 + 1 ≤ _), (by decide : 3 + 6 ≤ _)⟩)
    dsimp only [Pt.U, Pt.locs, Pt.cells, Pt.slots] at X14 l14 y14 z14 st14 hQ14
    subst l14 y14 z14
    obtain ⟨b_14, kb_14, rfl, N14q, Kc14, fc14_0, fc14_1⟩ := hQ14
    have N14 := Fr.app N2 N14q
    have nb18 : a0 ≠ b_14 := Nat.ne_of_lt (Nat.lt_of_lt_of_le f15.lt fc14_1)
    refine gb (mkF m 26 #[vr a0, vi 0, vi 3, vr b1, vi 1, .unset] [(.ref b_14)]) st14 ?_
    refine gb (mkF m 28 #[vr a0, vi 0, vi 3, vr b1, vi 1, vr b_14] []) (fun _ k => XS.astore X14.here hx rfl (hb hby d9_26) rfl rfl (l' := #[vr a0, vi 0, vi 3, vr b1, vi 1, vr b_14]) rfl k) ?_
    refine gb (mkF m 30 #[vr a0, vi 0, vi 3, vr b1, vi 1, vr b_14] [(.ref b_14)]) (fun _ k => XS.aload X14.here hx rfl (hb hby d9_28) rfl rfl k) ?_
    refine gb (mkF m 32 #[vr a0, vi 0, vi 3, vr b1, vi 1, vr b_14] [(.int 1), (.ref b_14)]) (fun _ k => XS.iload X14.here hx rfl (hb hby d9_30) rfl k) ?_
    have O20 := (O16.keep Kc14 all0)
    obtain ⟨_, _, ⟨T19, L19, k19, n19⟩, -, X19, ⟨Lc19, hQ19, l19, y19, z19⟩, st19⟩ := callS X14 hx (y := mq5) hown (mvT hZ (hW hw 93 rfl)) (mvT hZ (hW hw 94 rfl)) (mvT hZ (hW hw 47 rfl)) (mvT hZ (hW hw 95 rfl)) (by decide) (backOf (W := 0) (rm21 l Z a0' hw [] b_14 (1 : Int32) kb_14 (6 : Int32) [(bA x0), (bB x0), (bA x1), (bB x1), (bA x2), (bB x2)] G1 w_sf T14.heap n0 O20 W fc14_0 (by decide) (by decide)) hZ (hW hw 95 rfl) (hW hw 47 rfl) (by decide) (by decide)) (g := (mkF m 32 #[vr a0, vi 0, vi 3, vr b1, vi 1, vr b_14] [(.int 1), (.ref b_14)])) rfl (by rw [hml]; rfl) (argsL := [(.ref b_14), (.int 1)]) (rest := []) (lenOf pd69 rfl) rfl (Nat.le_of_eq rfl) (hb hby d9_32) (fun _ _ => ⟨rfl, rfl, (by decide : 2 + 0 ≤ _), (by decide : 9 + 0 ≤ _)⟩)
    dsimp only [Pt.U, Pt.locs, Pt.cells, Pt.slots] at X19 l19 y19 z19 st19 hQ19
    subst l19 y19 z19
    obtain ⟨rfl, N19q, e19⟩ := hQ19
    have N19 := Fr.app N14 N19q
    refine gb (mkF m 35 #[vr a0, vi 0, vi 3, vr b1, vi 1, vr b_14] [(.int (fn21 (1 : Int32) [(bA x0), (bB x0), (bA x1), (bB x1), (bA x2), (bB x2)] G1 w_sf))]) st19 ?_
    refine gb (mkF m 38 #[vr a0, vi 0, vi 3, vr b1, vi 1, vr b_14] [(.int 255), (.int (fn21 (1 : Int32) [(bA x0), (bB x0), (bA x1), (bB x1), (bA x2), (bB x2)] G1 w_sf))]) (fun _ k => XS.sipush X19.here hx rfl (hb hby d9_35) k) ?_
    refine gb (mkF m 54 #[vr a0, vi 0, vi 3, vr b1, vi 1, vr b_14] []) (fun _ k => XS.icmpYes X19.here hx rfl (pc0 := 38) (pc' := 54) rfl (hb hby d9_38) rfl (tlt (by rw [show (fn21 (1 : Int32) [(bA x0), (bB x0), (bA x1), (bB x1), (bA x2), (bB x2)] G1 w_sf) = nar .char x1 from at21  (i := (1 : Int32)) (congrArg (fun k => List.getD [(bA x0), (bB x0), (bA x1), (bB x1), (bA x2), (bB x2)] k 0) (by decide : ((1 : Int32) <<< ((1 : Int32) &&& 31)).toNatClampNeg = 2)) (congrArg (fun k => List.getD [(bA x0), (bB x0), (bA x1), (bB x1), (bA x2), (bB x2)] k 0) (by decide : (((1 : Int32) <<< ((1 : Int32) &&& 31)) + (1 : Int32)).toNatClampNeg = 3)), hc1]; exact hy)).2.2.1 (by decide) (by decide) k) ?_
    refine gb (mkF m 56 #[vr a0, vi 0, vi 3, vr b1, vi 1, vr b_14] [(.ref b_14)]) (fun _ k => XS.aload X19.here hx rfl (hb hby d9_54) rfl rfl k) ?_
    have K21 := (K17.trans Kc14 all0)
    exact Gl.outA X19 hx hk Bd.returns rfl rfl (hb hby d9_56) (Eq.mpr (congrArg (fun hh => Q93 Z a0 ka x0 x1 x2 G1 w_sf h0 n0 _ hh _) e19) (show Q93 Z a0 ka x0 x1 x2 G1 w_sf h0 n0 _ T14.heap _ from ⟨b_14, kb_14, rfl, N19, K21, (Nat.le_trans K17.1 fc14_1), (Or.inr ⟨(Or.inr (Or.inl hy)), fc14_0⟩)⟩)) (by decide) (by decide)
  · refine gb (mkF m 14 #[vr a0, vi 0, vi 3, vr b1, vi 2, .unset] []) (fun _ k => XS.istore X2.here hx rfl (hb hby d9_12) rfl (l' := #[vr a0, vi 0, vi 3, vr b1, vi 2, .unset]) rfl k) ?_
    refine gb (mkF m 16 #[vr a0, vi 0, vi 3, vr b1, vi 2, .unset] [(.int 2)]) (fun _ k => XS.iload X2.here hx rfl (hb hby d9_14) rfl k) ?_
    refine gb (mkF m 17 #[vr a0, vi 0, vi 3, vr b1, vi 2, .unset] [(.int 3), (.int 2)]) (fun _ k => XS.iloadN X2.here hx rfl (hb hby d9_16) rfl k) ?_
    refine gb (mkF m 20 #[vr a0, vi 0, vi 3, vr b1, vi 2, .unset] []) (fun _ k => XS.icmpNo X2.here hx rfl (hb hby d9_17) rfl (feq (by decide : ¬ ((2 : Int32) = (3 : Int32)))).1 k) ?_
    refine gb (mkF m 21 #[vr a0, vi 0, vi 3, vr b1, vi 2, .unset] [(.ref a0)]) (fun _ k => XS.aloadN X2.here hx rfl (hb hby d9_20) rfl rfl k) ?_
    refine gb (mkF m 22 #[vr a0, vi 0, vi 3, vr b1, vi 2, .unset] [(.int 0), (.ref a0)]) (fun _ k => XS.iloadN X2.here hx rfl (hb hby d9_21) rfl k) ?_
    refine gb (mkF m 23 #[vr a0, vi 0, vi 3, vr b1, vi 2, .unset] [(.int 3), (.int 0), (.ref a0)]) (fun _ k => XS.iloadN X2.here hx rfl (hb hby d9_22) rfl k) ?_
    have f23 := (Arv.keep f3 Kc2 (ninS ne1_0 nin0))
    have O24 := (O4.keep Kc2 (allS gb1 all0))
    have K25 := (((Keep.refl h0 []).ext E1).trans Kc2 (allS (Or.inr sb1) all0))
    obtain ⟨_, _, ⟨T22, L22, k22, n22⟩, -, X22, ⟨Lc22, hQ22, l22, y22, z22⟩, st22⟩ := callS X2 hx (y := mq15) hown (mvT hZ (hW hw 77 rfl)) (mvT hZ (hW hw 78 rfl)) (mvT hZ (hW hw 47 rfl)) (mvT hZ (hW hw 79 rfl)) (by decide) (backOf (W := 0) (rm173 l Z a0' hw [] a0 ka x0 x1 x2 G1 w_sf T2.heap n0 O24 W f23) hZ (hW hw 79 rfl) (hW hw 47 rfl) (by decide) (by decide)) (g := (mkF m 23 #[vr a0, vi 0, vi 3, vr b1, vi 2, .unset] [(.int 3), (.int 0), (.ref a0)])) rfl (by rw [hml]; rfl) (argsL := [(.ref a0), (.int 0), (.int 3)]) (rest := []) (lenOf pd217 rfl) rfl (Nat.le_of_eq rfl) (hb hby d9_23) (fun _ _ => ⟨rfl, rfl, (by decide : 1 + 1 ≤ _), (by decide : 3 + 6 ≤ _)⟩)
    dsimp only [Pt.U, Pt.locs, Pt.cells, Pt.slots] at X22 l22 y22 z22 st22 hQ22
    subst l22 y22 z22
    obtain ⟨b_22, kb_22, rfl, N22q, Kc22, fc22_0, fc22_1⟩ := hQ22
    have N22 := Fr.app N2 N22q
    have nb26 : a0 ≠ b_22 := Nat.ne_of_lt (Nat.lt_of_lt_of_le f23.lt fc22_1)
    refine gb (mkF m 26 #[vr a0, vi 0, vi 3, vr b1, vi 2, .unset] [(.ref b_22)]) st22 ?_
    refine gb (mkF m 28 #[vr a0, vi 0, vi 3, vr b1, vi 2, vr b_22] []) (fun _ k => XS.astore X22.here hx rfl (hb hby d9_26) rfl rfl (l' := #[vr a0, vi 0, vi 3, vr b1, vi 2, vr b_22]) rfl k) ?_
    refine gb (mkF m 30 #[vr a0, vi 0, vi 3, vr b1, vi 2, vr b_22] [(.ref b_22)]) (fun _ k => XS.aload X22.here hx rfl (hb hby d9_28) rfl rfl k) ?_
    refine gb (mkF m 32 #[vr a0, vi 0, vi 3, vr b1, vi 2, vr b_22] [(.int 2), (.ref b_22)]) (fun _ k => XS.iload X22.here hx rfl (hb hby d9_30) rfl k) ?_
    have O28 := (O24.keep Kc22 all0)
    obtain ⟨_, _, ⟨T27, L27, k27, n27⟩, -, X27, ⟨Lc27, hQ27, l27, y27, z27⟩, st27⟩ := callS X22 hx (y := mq5) hown (mvT hZ (hW hw 93 rfl)) (mvT hZ (hW hw 94 rfl)) (mvT hZ (hW hw 47 rfl)) (mvT hZ (hW hw 95 rfl)) (by decide) (backOf (W := 0) (rm21 l Z a0' hw [] b_22 (2 : Int32) kb_22 (6 : Int32) [(bA x0), (bB x0), (bA x1), (bB x1), (bA x2), (bB x2)] G1 w_sf T22.heap n0 O28 W fc22_0 (by decide) (by decide)) hZ (hW hw 95 rfl) (hW hw 47 rfl) (by decide) (by decide)) (g := (mkF m 32 #[vr a0, vi 0, vi 3, vr b1, vi 2, vr b_22] [(.int 2), (.ref b_22)])) rfl (by rw [hml]; rfl) (argsL := [(.ref b_22), (.int 2)]) (rest := []) (lenOf pd69 rfl) rfl (Nat.le_of_eq rfl) (hb hby d9_32) (fun _ _ => ⟨rfl, rfl, (by decide : 2 + 0 ≤ _), (by decide : 9 + 0 ≤ _)⟩)
    dsimp only [Pt.U, Pt.locs, Pt.cells, Pt.slots] at X27 l27 y27 z27 st27 hQ27
    subst l27 y27 z27
    obtain ⟨rfl, N27q, e27⟩ := hQ27
    have N27 := Fr.app N22 N27q
    refine gb (mkF m 35 #[vr a0, vi 0, vi 3, vr b1, vi 2, vr b_22] [(.int (fn21 (2 : Int32) [(bA x0), (bB x0), (bA x1), (bB x1), (bA x2), (bB x2)] G1 w_sf))]) st27 ?_
    refine gb (mkF m 38 #[vr a0, vi 0, vi 3, vr b1, vi 2, vr b_22] [(.int 255), (.int (fn21 (2 : Int32) [(bA x0), (bB x0), (bA x1), (bB x1), (bA x2), (bB x2)] G1 w_sf))]) (fun _ k => XS.sipush X27.here hx rfl (hb hby d9_35) k) ?_
    refine gb (mkF m 54 #[vr a0, vi 0, vi 3, vr b1, vi 2, vr b_22] []) (fun _ k => XS.icmpYes X27.here hx rfl (pc0 := 38) (pc' := 54) rfl (hb hby d9_38) rfl (tlt (by rw [show (fn21 (2 : Int32) [(bA x0), (bB x0), (bA x1), (bB x1), (bA x2), (bB x2)] G1 w_sf) = nar .char x2 from at21  (i := (2 : Int32)) (congrArg (fun k => List.getD [(bA x0), (bB x0), (bA x1), (bB x1), (bA x2), (bB x2)] k 0) (by decide : ((2 : Int32) <<< ((1 : Int32) &&& 31)).toNatClampNeg = 4)) (congrArg (fun k => List.getD [(bA x0), (bB x0), (bA x1), (bB x1), (bA x2), (bB x2)] k 0) (by decide : (((2 : Int32) <<< ((1 : Int32) &&& 31)) + (1 : Int32)).toNatClampNeg = 5)), hc2]; exact hy)).2.2.1 (by decide) (by decide) k) ?_
    refine gb (mkF m 56 #[vr a0, vi 0, vi 3, vr b1, vi 2, vr b_22] [(.ref b_22)]) (fun _ k => XS.aload X27.here hx rfl (hb hby d9_54) rfl rfl k) ?_
    have K29 := (K25.trans Kc22 all0)
    exact Gl.outA X27 hx hk Bd.returns rfl rfl (hb hby d9_56) (Eq.mpr (congrArg (fun hh => Q93 Z a0 ka x0 x1 x2 G1 w_sf h0 n0 _ hh _) e27) (show Q93 Z a0 ka x0 x1 x2 G1 w_sf h0 n0 _ T22.heap _ from ⟨b_22, kb_22, rfl, N27, K29, (Nat.le_trans K25.1 fc22_1), (Or.inr ⟨(Or.inr (Or.inr (hy))), fc22_0⟩)⟩)) (by decide) (by decide)
theorem ef94 (m : MethodId) (x0 : Addr) (x1 : Int32) (x2 : Int32) : entryFrame m #[(.ref x0), (.int x1), (.int x2)] 6 = mkF m 0 #[.val (.ref x0), .val (.int x1), .val (.int x2), .unset, .unset, .unset] [] := by first | (simp [entryFrame, mkF, argsToLocals, Value.category]; done) | rfl
def Q94 (Z : State) (a0 : Addr) (ka : ClassId) (x0 : Int32) (x1 : Int32) (x2 : Int32) (x3 : Int32) (G1 : Int32) (w_sf : Value) (h0 : Heap) (n0 : Nat) (v : Option Value) (h : Heap) (L : List Loc) : Prop := ∃ (b : Addr), ∃ (kb : ClassId), v = some (.ref b) ∧ Fr n0 L ∧ Keep h0 h [] ∧ (h0.size ≤ b) ∧ ((¬ ((255 : Int32) < x0 ∨ (255 : Int32) < x1 ∨ (255 : Int32) < x2 ∨ (255 : Int32) < x3) ∧ Arv Z h b kb .byte (4 : Int32) [(.int (bL x0)), (.int (bL x1)), (.int (bL x2)), (.int (bL x3))] (.int 0)) ∨ (((255 : Int32) < x0 ∨ (255 : Int32) < x1 ∨ (255 : Int32) < x2 ∨ (255 : Int32) < x3) ∧ Arv Z h b kb .byte (8 : Int32) [(.int (bA x0)), (.int (bB x0)), (.int (bA x1)), (.int (bB x1)), (.int (bA x2)), (.int (bB x2)), (.int (bA x3)), (.int (bB x3))] (.int 0)))
theorem rm94 (l : Launch) (Z : State) (a0' : Array Value) (hw : ∀ d ∈ tables_1, d.before a0' Z = true) (ws : List Jvm.Cond) (a0 : Addr) (ka : ClassId) (x0 : Int32) (x1 : Int32) (x2 : Int32) (x3 : Int32) (G1 : Int32) (w_sf : Value) (h0 : Heap) (n0 : Nat) (O : Old Z n0 h0) (W : Wd Z G1 w_sf) (pf0 : Arv Z h0 a0 ka .char (4 : Int32) [(.int x0), (.int x1), (.int x2), (.int x3)] (.int 0)) (hc0 : nar .char x0 = x0) (hc1 : nar .char x1 = x1) (hc2 : nar .char x2 = x2) (hc3 : nar .char x3 = x3) :
    MetFree l mq16 (head1 (Jvm.Cond.code mq16 jdk_52_method_16_code 6 (some (.array .byte)) :: ws) ({ frames := 3, cells := 2, slots := 12, locals := 40 } : Room)) (fun a U => a = #[(.ref a0), (.int 0), (.int 4)] ∧ Z.Warmed39 U.vm ∧ U.heap = h0) (fun _ _ _ _ _ => True) (fun _ U o U' => ∃ v L, o = .returned v ∧ Q94 Z a0 ka x0 x1 x2 x3 G1 w_sf h0 n0 v U'.heap L ∧ FrameEnd U o U' L ({ frames := 3, cells := 2, slots := 12, locals := 40 } : Room).cells ({ frames := 3, cells := 2, slots := 12, locals := 40 } : Room).slots) := by
  refine MetFree.of_bodySF (plainFor_of_name pn3) hisR ?_
  intro p e s m args below meth c s₁ Bd hml0 hP hK
  obtain ⟨rfl, hZ, hh⟩ := hP
  have hx := Bd.exec
  have hby := Bd.bytes
  have hml : c.maxLocals = 6 := hml0
  have hown : s.vm.findClass "java/lang/StringUTF16" = some m.cls := findClass_of_methodNamed Bd.named
  have hnm := (name_of_methodNamed Bd.named Bd.method).1
  have hk := Bd.notSynchronized
  have X0 : Stand p l e ({ frames := 3, cells := 2, slots := 12, locals := 40 } : Room) s m #[(.ref a0), (.int 0), (.int 4)] below meth c s₁ [] 0 0 := Stand.of_body Bd
  have hh2 := hh
  have e0 : s₁.heap = h0 := by rw [← hh, Bd.state]; rfl
  have N0 := Fr.nil n0
  show Gl p e below (Pos 2 12 (Q94 Z a0 ka x0 x1 x2 x3 G1 w_sf h0 n0) s) s₁ _
  refine Gl.cast (ef94 m a0 (0 : Int32) (4 : Int32)) ?_
  refine gb (mkF m 1 #[vr a0, vi 0, vi 4, .unset, .unset, .unset] [(.int 4)]) (fun _ k => XS.iloadN X0.here hx rfl (hb hby d9_0) rfl k) ?_
  obtain ⟨T1, h1, k1, X1, e1, E1, A1, st1⟩ := newP X0 hx hZ (hW hw 20 rfl) e0 (g := (mkF m 1 #[vr a0, vi 0, vi 4, .unset, .unset, .unset] [(.int 4)])) rfl (hb hby d9_1) rfl (by decide) (cap := 4) (by decide) (by decide) (by decide) (by decide)
  obtain ⟨b1, g1⟩ : ∃ z, z = (h0).size := ⟨_, rfl⟩
  rw [← g1] at A1 st1
  have gb1 : n0 ≤ b1 := Nat.le_trans (Nat.le_trans (Nat.le_of_eq O.1.symm) O.2.1) (Nat.le_of_eq g1.symm)
  have sb1 : h0.size ≤ b1 := Nat.le_trans (Keep.refl h0 []).1 (Nat.le_of_eq g1.symm)
  have ne1_0 : a0 ≠ b1 := Nat.ne_of_lt (Nat.lt_of_lt_of_le pf0.lt (Nat.le_of_eq g1.symm))
  have V1 : Arv Z h1 b1 k1 .byte (4 : Int32) [(.int 0), (.int 0), (.int 0), (.int 0)] (.int 0) := (Arv.new A1 (by decide)).pad (pad_rep [] (.int 0) 4)
  refine gb (mkF m 3 #[vr a0, vi 0, vi 4, .unset, .unset, .unset] [(.ref b1)]) st1 ?_
  refine gb (mkF m 4 #[vr a0, vi 0, vi 4, vr b1, .unset, .unset] []) (fun _ k => XS.astoreN X1.here hx rfl (hb hby d9_3) rfl rfl (l' := #[vr a0, vi 0, vi 4, vr b1, .unset, .unset]) rfl k) ?_
  refine gb (mkF m 5 #[vr a0, vi 0, vi 4, vr b1, .unset, .unset] [(.ref a0)]) (fun _ k => XS.aloadN X1.here hx rfl (hb hby d9_4) rfl rfl k) ?_
  refine gb (mkF m 6 #[vr a0, vi 0, vi 4, vr b1, .unset, .unset] [(.int 0), (.ref a0)]) (fun _ k => XS.iloadN X1.here hx rfl (hb hby d9_5) rfl k) ?_
  refine gb (mkF m 7 #[vr a0, vi 0, vi 4, vr b1, .unset, .unset] [(.ref b1), (.int 0), (.ref a0)]) (fun _ k => XS.aloadN X1.here hx rfl (hb hby d9_6) rfl rfl k) ?_
  refine gb (mkF m 8 #[vr a0, vi 0, vi 4, vr b1, .unset, .unset] [(.int 0), (.ref b1), (.int 0), (.ref a0)]) (fun _ k => XS.iconst X1.here hx rfl (hb hby d9_7) k) ?_
  refine gb (mkF m 9 #[vr a0, vi 0, vi 4, vr b1, .unset, .unset] [(.int 4), (.int 0), (.ref b1), (.int 0), (.ref a0)]) (fun _ k => XS.iloadN X1.here hx rfl (hb hby d9_8) rfl k) ?_
  have f3 := (Arv.ext pf0 E1)
  have O4 := (O.ext E1)
  obtain ⟨_, _, ⟨T2, L2, k2, n2⟩, -, X2, ⟨Lc2, hQ2, l2, y2, z2⟩, st2⟩ := callS X1 hx (y := mq11) hown (mvT hZ (hW hw 49 rfl)) (mvT hZ (hW hw 50 rfl)) (mvT hZ (hW hw 47 rfl)) (mvT hZ (hW hw 51 rfl)) (by decide) (backOf (W := 0) (rm104 l Z a0' hw [] a0 b1 ka k1 x0 x1 x2 x3 G1 w_sf h1 n0 O4 W f3 V1 gb1 ne1_0) hZ (hW hw 51 rfl) (hW hw 47 rfl) (by decide) (by decide)) (g := (mkF m 9 #[vr a0, vi 0, vi 4, vr b1, .unset, .unset] [(.int 4), (.int 0), (.ref b1), (.int 0), (.ref a0)])) rfl (by rw [hml]; rfl) (argsL := [(.ref a0), (.int 0), (.ref b1), (.int 0), (.int 4)]) (rest := []) (lenOf pd216 rfl) rfl (Nat.le_of_eq rfl) (hb hby d9_9) (fun _ _ => ⟨rfl, e1, (by decide : 1 + 0 ≤ _), (by decide : 4 + 0 ≤ _)⟩)
  dsimp only [Pt.U, Pt.locs, Pt.cells, Pt.slots] at X2 l2 y2 z2 st2 hQ2
  subst l2 y2 z2
  obtain ⟨r_2, rfl, N2q, Kc2, fc2_0⟩ := hQ2
  have N2 := Fr.app N0 N2q
  refine gb (mkF m 12 #[vr a0, vi 0, vi 4, vr b1, .unset, .unset] [(.int r_2)]) st2 ?_
  rcases fc2_0 with ⟨rfl, hN, hV⟩ | ⟨rfl, hy⟩ | ⟨rfl, hy⟩ | ⟨rfl, hy⟩ | ⟨rfl, hy⟩
  · refine gb (mkF m 14 #[vr a0, vi 0, vi 4, vr b1, vi 4, .unset] []) (fun _ k => XS.istore X2.here hx rfl (hb hby d9_12) rfl (l' := #[vr a0, vi 0, vi 4, vr b1, vi 4, .unset]) rfl k) ?_
    refine gb (mkF m 16 #[vr a0, vi 0, vi 4, vr b1, vi 4, .unset] [(.int 4)]) (fun _ k => XS.iload X2.here hx rfl (hb hby d9_14) rfl k) ?_
    refine gb (mkF m 17 #[vr a0, vi 0, vi 4, vr b1, vi 4, .unset] [(.int 4), (.int 4)]) (fun _ k => XS.iloadN X2.here hx rfl (hb hby d9_16) rfl k) ?_
    refine gb (mkF m 57 #[vr a0, vi 0, vi 4, vr b1, vi 4, .unset] []) (fun _ k => XS.icmpYes X2.here hx rfl (pc0 := 17) (pc' := 57) rfl (hb hby d9_17) rfl (teq (by decide : (4 : Int32) = (4 : Int32))).1 (by decide) (by decide) k) ?_
    refine gb (mkF m 58 #[vr a0, vi 0, vi 4, vr b1, vi 4, .unset] [(.ref b1)]) (fun _ k => XS.aloadN X2.here hx rfl (hb hby d9_57) rfl rfl k) ?_
    have K5 := (((Keep.refl h0 []).ext E1).trans Kc2 (allS (Or.inr sb1) all0))
    exact Gl.outA X2 hx hk Bd.returns rfl rfl (hb hby d9_58) ⟨b1, k1, rfl, N2, K5, sb1, (Or.inl ⟨hN, hV⟩)⟩ (by decide) (by decide)
  · refine gb (mkF m 14 #[vr a0, vi 0, vi 4, vr b1, vi 0, .unset] []) (fun _ k => XS.istore X2.here hx rfl (hb hby d9_12) rfl (l' := #[vr a0, vi 0, vi 4, vr b1, vi 0, .unset]) rfl k) ?_
    refine gb (mkF m 16 #[vr a0, vi 0, vi 4, vr b1, vi 0, .unset] [(.int 0)]) (fun _ k => XS.iload X2.here hx rfl (hb hby d9_14) rfl k) ?_
    refine gb (mkF m 17 #[vr a0, vi 0, vi 4, vr b1, vi 0, .unset] [(.int 4), (.int 0)]) (fun _ k => XS.iloadN X2.here hx rfl (hb hby d9_16) rfl k) ?_
    refine gb (mkF m 20 #[vr a0, vi 0, vi 4, vr b1, vi 0, .unset] []) (fun _ k => XS.icmpNo X2.here hx rfl (hb hby d9_17) rfl (feq (by decide : ¬ ((0 : Int32) = (4 : Int32)))).1 k) ?_
    refine gb (mkF m 21 #[vr a0, vi 0, vi 4, vr b1, vi 0, .unset] [(.ref a0)]) (fun _ k => XS.aloadN X2.here hx rfl (hb hby d9_20) rfl rfl k) ?_
    refine gb (mkF m 22 #[vr a0, vi 0, vi 4, vr b1, vi 0, .unset] [(.int 0), (.ref a0)]) (fun _ k => XS.iloadN X2.here hx rfl (hb hby d9_21) rfl k) ?_
    refine gb (mkF m 23 #[vr a0, vi 0, vi 4, vr b1, vi 0, .unset] [(.int 4), (.int 0), (.ref a0)]) (fun _ k => XS.iloadN X2.here hx rfl (hb hby d9_22) rfl k) ?_
    have f7 := (Arv.keep f3 Kc2 (ninS ne1_0 nin0))
    have O8 := (O4.keep Kc2 (allS gb1 all0))
    have K9 := (((Keep.refl h0 []).ext E1).trans Kc2 (allS (Or.inr sb1) all0))
    obtain ⟨_, _, ⟨T6, L6, k6, n6⟩, -, X6, ⟨Lc6, hQ6, l6, y6, z6⟩, st6⟩ := callS X2 hx (y := mq15) hown (mvT hZ (hW hw 77 rfl)) (mvT hZ (hW hw 78 rfl)) (mvT hZ (hW hw 47 rfl)) (mvT hZ (hW hw 79 rfl)) (by decide) (backOf (W := 0) (rm174 l Z a0' hw [] a0 ka x0 x1 x2 x3 G1 w_sf T2.heap n0 O8 W f7) hZ (hW hw 79 rfl) (hW hw 47 rfl) (by decide) (by decide)) (g := (mkF m 23 #[vr a0, vi 0, vi 4, vr b1, vi 0, .unset] [(.int 4), (.int 0), (.ref a0)])) rfl (by rw [hml]; rfl) (argsL := [(.ref a0), (.int 0), (.int 4)]) (rest := []) (lenOf pd217 rfl) rfl (Nat.le_of_eq rfl) (hb hby d9_23) (fun _ _ => ⟨rfl, rfl, (by decide : 1 + 1 ≤ _), (by decide : 4 + 8 ≤ _)⟩)
    dsimp only [Pt.U, Pt.locs, Pt.cells, Pt.slots] at X6 l6 y6 z6 st6 hQ6
    subst l6 y6 z6
    obtain ⟨b_6, kb_6, rfl, N6q, Kc6, fc6_0, fc6_1⟩ := hQ6
    have N6 := Fr.app N2 N6q
    have nb10 : a0 ≠ b_6 := Nat.ne_of_lt (Nat.lt_of_lt_of_le f7.lt fc6_1)
    refine gb (mkF m 26 #[vr a0, vi 0, vi 4, vr b1, vi 0, .unset] [(.ref b_6)]) st6 ?_
    refine gb (mkF m 28 #[vr a0, vi 0, vi 4, vr b1, vi 0, vr b_6] []) (fun _ k => XS.astore X6.here hx rfl (hb hby d9_26) rfl rfl (l' := #[vr a0, vi 0, vi 4, vr b1, vi 0, vr b_6]) rfl k) ?_
    refine gb (mkF m 30 #[vr a0, vi 0, vi 4, vr b1, vi 0, vr b_6] [(.ref b_6)]) (fun _ k => XS.aload X6.here hx rfl (hb hby d9_28) rfl rfl k) ?_
    refine gb (mkF m 32 #[vr a0, vi 0, vi 4, vr b1, vi 0, vr b_6] [(.int 0), (.ref b_6)]) (fun _ k => XS.iload X6.here hx rfl (hb hby d9_30) rfl k) ?_
    have O12 := (O8.keep Kc6 all0)
    obtain ⟨_, _, ⟨T11, L11, k11, n11⟩, -, X11, ⟨Lc11, hQ11, l11, y11, z11⟩, st11⟩ := callS X6 hx (y := mq5) hown (mvT hZ (hW hw 93 rfl)) (mvT hZ (hW hw 94 rfl)) (mvT hZ (hW hw 47 rfl)) (mvT hZ (hW hw 95 rfl)) (by decide) (backOf (W := 0) (rm21 l Z a0' hw [] b_6 (0 : Int32) kb_6 (8 : Int32) [(bA x0), (bB x0), (bA x1), (bB x1), (bA x2), (bB x2), (bA x3), (bB x3)] G1 w_sf T6.heap n0 O12 W fc6_0 (by decide) (by decide)) hZ (hW hw 95 rfl) (hW hw 47 rfl) (by decide) (by decide)) (g := (mkF m 32 #[vr a0, vi 0, vi 4, vr b1, vi 0, vr b_6] [(.int 0), (.ref b_6)])) rfl (by rw [hml]; rfl) (argsL := [(.ref b_6), (.int 0)]) (rest := []) (lenOf pd69 rfl) rfl (Nat.le_of_eq rfl) (hb hby d9_32) (fun _ _ => ⟨rfl, rfl, (by decide : 2 + 0 ≤ _), (by decide : 12 + 0 ≤ _)⟩)
    dsimp only [Pt.U, Pt.locs, Pt.cells, Pt.slots] at X11 l11 y11 z11 st11 hQ11
    subst l11 y11 z11
    obtain ⟨rfl, N11q, e11⟩ := hQ11
    have N11 := Fr.app N6 N11q
    refine gb (mkF m 35 #[vr a0, vi 0, vi 4, vr b1, vi 0, vr b_6] [(.int (fn21 (0 : Int32) [(bA x0), (bB x0), (bA x1), (bB x1), (bA x2), (bB x2), (bA x3), (bB x3)] G1 w_sf))]) st11 ?_
    refine gb (mkF m 38 #[vr a0, vi 0, vi 4, vr b1, vi 0, vr b_6] [(.int 255), (.int (fn21 (0 : Int32) [(bA x0), (bB x0), (bA x1), (bB x1), (bA x2), (bB x2), (bA x3), (bB x3)] G1 w_sf))]) (fun _ k => XS.sipush X11.here hx rfl (hb hby d9_35) k) ?_
    refine gb (mkF m 54 #[vr a0, vi 0, vi 4, vr b1, vi 0, vr b_6] []) (fun _ k => XS.icmpYes X11.here hx rfl (pc0 := 38) (pc' := 54) rfl (hb hby d9_38) rfl (tlt (by rw [show (fn21 (0 : Int32) [(bA x0), (bB x0), (bA x1), (bB x1), (bA x2), (bB x2), (bA x3), (bB x3)] G1 w_sf) = nar .char x0 from at21  (i := (0 : Int32)) (congrArg (fun k => List.getD [(bA x0), (bB x0), (bA x1), (bB x1), (bA x2), (bB x2), (bA x3), (bB x3)] k 0) (by decide : ((0 : Int32) <<< ((1 : Int32) &&& 31)).toNatClampNeg = 0)) (congrArg (fun k => List.getD [(bA x0), (bB x0), (bA x1), (bB x1), (bA x2), (bB x2), (bA x3), (bB x3)] k 0) (by decide : (((0 : Int32) <<< ((1 : Int32) &&& 31)) + (1 : Int32)).toNatClampNeg = 1)), hc0]; exact hy)).2.2.1 (by decide) (by decide) k) ?_
    refine gb (mkF m 56 #[vr a0, vi 0, vi 4, vr b1, vi 0, vr b_6] [(.ref b_6)]) (fun _ k => XS.aload X11.here hx rfl (hb hby d9_54) rfl rfl k) ?_
    have K13 := (K9.trans Kc6 all0)
    exact Gl.outA X11 hx hk Bd.returns rfl rfl (hb hby d9_56) (Eq.mpr (congrArg (fun hh => Q94 Z a0 ka x0 x1 x2 x3 G1 w_sf h0 n0 _ hh _) e11) (show Q94 Z a0 ka x0 x1 x2 x3 G1 w_sf h0 n0 _ T6.heap _ from ⟨b_6, kb_6, rfl, N11, K13, (Nat.le_trans K9.1 fc6_1), (Or.inr ⟨(Or.inl hy), fc6_0⟩)⟩)) (by decide) (by decide)
  · refine gb (mkF m 14 #[vr a0, vi 0, vi 4, vr b1, vi 1, .unset] []) (fun _ k => XS.istore X2.here hx rfl (hb hby d9_12) rfl (l' := #[vr a0, vi 0, vi 4, vr b1, vi 1, .unset]) rfl k) ?_
    refine gb (mkF m 16 #[vr a0, vi 0, vi 4, vr b1, vi 1, .unset] [(.int 1)]) (fun _ k => XS.iload X2.here hx rfl (hb hby d9_14) rfl k) ?_
    refine gb (mkF m 17 #[vr a0, vi 0, vi 4, vr b1, vi 1, .unset] [(.int 4), (.int 1)]) (fun _ k => XS.iloadN X2.here hx rfl (hb hby d9_16) rfl k) ?_
    refine gb (mkF m 20 #[vr a0, vi 0, vi 4, vr b1, vi 1, .unset] []) (fun _ k => XS.icmpNo X2.here hx rfl (hb hby d9_17) rfl (feq (by decide : ¬ ((1 : Int32) = (4 : Int32)))).1 k) ?_
    refine gb (mkF m 21 #[vr a0, vi 0, vi 4, vr b1, vi 1, .unset] [(.ref a0)]) (fun _ k => XS.aloadN X2.here hx rfl (hb hby d9_20) rfl rfl k) ?_
    refine gb (mkF m 22 #[vr a0, vi 0, vi 4, vr b1, vi 1, .unset] [(.int 0), (.ref a0)]) (fun _ k => XS.iloadN X2.here hx rfl (hb hby d9_21) rfl k) ?_
    refine gb (mkF m 23 #[vr a0, vi 0, vi 4, vr b1, vi 1, .unset] [(.int 4), (.int 0), (.ref a0)]) (fun _ k => XS.iloadN X2.here hx rfl (hb hby d9_22) rfl k) ?_
    have f15 := (Arv.keep f3 Kc2 (ninS ne1_0 nin0))
    have O16 := (O4.keep Kc2 (allS gb1 all0))
    have K17 := (((Keep.refl h0 []).ext E1).trans Kc2 (allS (Or.inr sb1) all0))
    obtain ⟨_, _, ⟨T14, L14, k14, n14⟩, -, X14, ⟨Lc14, hQ14, l14, y14, z14⟩, st14⟩ := callS X2 hx (y := mq15) hown (mvT hZ (hW hw 77 rfl)) (mvT hZ (hW hw 78 rfl)) (mvT hZ (hW hw 47 rfl)) (mvT hZ (hW hw 79 rfl)) (by decide) (backOf (W := 0) (rm174 l Z a0' hw [] a0 ka x0 x1 x2 x3 G1 w_sf T2.heap n0 O16 W f15) hZ (hW hw 79 rfl) (hW hw 47 rfl) (by decide) (by decide)) (g := (mkF m 23 #[vr a0, vi 0, vi 4, vr b1, vi 1, .unset] [(.int 4), (.int 0), (.ref a0)])) rfl (by rw [hml]; rfl) (argsL := [(.ref a0), (.int 0), (.int 4)]) (rest := []) (lenOf pd217 rfl) rfl (Nat.le_of_eq rfl) (hb hby d9_23) (fun _ _ => ⟨rfl, rfl, (by decide : 1 + 1 ≤ _), (by decide : 4 + 8 ≤ _)⟩)
    dsimp only [Pt.U, Pt.locs, Pt.cells, Pt.slots] at X14 l14 y14 z14 st14 hQ14
    subst l14 y14 z14
    obtain ⟨b_14, kb_14, rfl, N14q, Kc14, fc14_0, fc14_1⟩ := hQ14
    have N14 := Fr.app N2 N14q
    have nb18 : a0 ≠ b_14 := Nat.ne_of_lt (Nat.lt_of_lt_of_le f15.lt fc14_1)
    refine gb (mkF m 26 #[vr a0, vi 0, vi 4, vr b1, vi 1, .unset] [(.ref b_14)]) st14 ?_
    refine gb (mkF m 28 #[vr a0, vi 0, vi 4, vr b1, vi 1, vr b_14] []) (fun _ k => XS.astore X14.here hx rfl (hb hby d9_26) rfl rfl (l' := #[vr a0, vi 0, vi 4, vr b1, vi 1, vr b_14]) rfl k) ?_
    refine gb (mkF m 30 #[vr a0, vi 0, vi 4, vr b1, vi 1, vr b_14] [(.ref b_14)]) (fun _ k => XS.aload X14.here hx rfl (hb hby d9_28) rfl rfl k) ?_
    refine gb (mkF m 32 #[vr a0, vi 0, vi 4, vr b1, vi 1, vr b_14] [(.int 1), (.ref b_14)]) (fun _ k => XS.iload X14.here hx rfl (hb hby d9_30) rfl k) ?_
    have O20 := (O16.keep Kc14 all0)
    obtain ⟨_, _, ⟨T19, L19, k19, n19⟩, -, X19, ⟨Lc19, hQ19, l19, y19, z19⟩, st19⟩ := callS X14 hx (y := mq5) hown (mvT hZ (hW hw 93 rfl)) (mvT hZ (hW hw 94 rfl)) (mvT hZ (hW hw 47 rfl)) (mvT hZ (hW hw 95 rfl)) (by decide) (backOf (W := 0) (rm21 l Z a0' hw [] b_14 (1 : Int32) kb_14 (8 : Int32) [(bA x0), (bB x0), (bA x1), (bB x1), (bA x2), (bB x2), (bA x3), (bB x3)] G1 w_sf T14.heap n0 O20 W fc14_0 (by decide) (by decide)) hZ (hW hw 95 rfl) (hW hw 47 rfl) (by decide) (by decide)) (g := (mkF m 32 #[vr a0, vi 0, vi 4, vr b1, vi 1, vr b_14] [(.int 1), (.ref b_14)])) rfl (by rw [hml]; rfl) (argsL := [(.ref b_14), (.int 1)]) (rest := []) (lenOf pd69 rfl) rfl (Nat.le_of_eq rfl) (hb hby d9_32) (fun _ _ => ⟨rfl, rfl, (by decide : 2 + 0 ≤ _), (by decide : 12 + 0 ≤ _)⟩)
    dsimp only [Pt.U, Pt.locs, Pt.cells, Pt.slots] at X19 l19 y19 z19 st19 hQ19
    subst l19 y19 z19
    obtain ⟨rfl, N19q, e19⟩ := hQ19
    have N19 := Fr.app N14 N19q
    refine gb (mkF m 35 #[vr a0, vi 0, vi 4, vr b1, vi 1, vr b_14] [(.int (fn21 (1 : Int32) [(bA x0), (bB x0), (bA x1), (bB x1), (bA x2), (bB x2), (bA x3), (bB x3)] G1 w_sf))]) st19 ?_
    refine gb (mkF m 38 #[vr a0, vi 0, vi 4, vr b1, vi 1, vr b_14] [(.int 255), (.int (fn21 (1 : Int32) [(bA x0), (bB x0), (bA x1), (bB x1), (bA x2), (bB x2), (bA x3), (bB x3)] G1 w_sf))]) (fun _ k => XS.sipush X19.here hx rfl (hb hby d9_35) k) ?_
    refine gb (mkF m 54 #[vr a0, vi 0, vi 4, vr b1, vi 1, vr b_14] []) (fun _ k => XS.icmpYes X19.here hx rfl (pc0 := 38) (pc' := 54) rfl (hb hby d9_38) rfl (tlt (by rw [show (fn21 (1 : Int32) [(bA x0), (bB x0), (bA x1), (bB x1), (bA x2), (bB x2), (bA x3), (bB x3)] G1 w_sf) = nar .char x1 from at21  (i := (1 : Int32)) (congrArg (fun k => List.getD [(bA x0), (bB x0), (bA x1), (bB x1), (bA x2), (bB x2), (bA x3), (bB x3)] k 0) (by decide : ((1 : Int32) <<< ((1 : Int32) &&& 31)).toNatClampNeg = 2)) (congrArg (fun k => List.getD [(bA x0), (bB x0), (bA x1), (bB x1), (bA x2), (bB x2), (bA x3), (bB x3)] k 0) (by decide : (((1 : Int32) <<< ((1 : Int32) &&& 31)) + (1 : Int32)).toNatClampNeg = 3)), hc1]; exact hy)).2.2.1 (by decide) (by decide) k) ?_
    refine gb (mkF m 56 #[vr a0, vi 0, vi 4, vr b1, vi 1, vr b_14] [(.ref b_14)]) (fun _ k => XS.aload X19.here hx rfl (hb hby d9_54) rfl rfl k) ?_
    have K21 := (K17.trans Kc14 all0)
    exact Gl.outA X19 hx hk Bd.returns rfl rfl (hb hby d9_56) (Eq.mpr (congrArg (fun hh => Q94 Z a0 ka x0 x1 x2 x3 G1 w_sf h0 n0 _ hh _) e19) (show Q94 Z a0 ka x0 x1 x2 x3 G1 w_sf h0 n0 _ T14.heap _ from ⟨b_14, kb_14, rfl, N19, K21, (Nat.le_trans K17.1 fc14_1), (Or.inr ⟨(Or.inr (Or.inl hy)), fc14_0⟩)⟩)) (by decide) (by decide)
  · refine gb (mkF m 14 #[vr a0, vi 0, vi 4, vr b1, vi 2, .unset] []) (fun _ k => XS.istore X2.here hx rfl (hb hby d9_12) rfl (l' := #[vr a0, vi 0, vi 4, vr b1, vi 2, .unset]) rfl k) ?_
    refine gb (mkF m 16 #[vr a0, vi 0, vi 4, vr b1, vi 2, .unset] [(.int 2)]) (fun _ k => XS.iload X2.here hx rfl (hb hby d9_14) rfl k) ?_
    refine gb (mkF m 17 #[vr a0, vi 0, vi 4, vr b1, vi 2, .unset] [(.int 4), (.int 2)]) (fun _ k => XS.iloadN X2.here hx rfl (hb hby d9_16) rfl k) ?_
    refine gb (mkF m 20 #[vr a0, vi 0, vi 4, vr b1, vi 2, .unset] []) (fun _ k => XS.icmpNo X2.here hx rfl (hb hby d9_17) rfl (feq (by decide : ¬ ((2 : Int32) = (4 : Int32)))).1 k) ?_
    refine gb (mkF m 21 #[vr a0, vi 0, vi 4, vr b1, vi 2, .unset] [(.ref a0)]) (fun _ k => XS.aloadN X2.here hx rfl (hb hby d9_20) rfl rfl k) ?_
    refine gb (mkF m 22 #[vr a0, vi 0, vi 4, vr b1, vi 2, .unset] [(.int 0), (.ref a0)]) (fun _ k => XS.iloadN X2.here hx rfl (hb hby d9_21) rfl k) ?_
    refine gb (mkF m 23 #[vr a0, vi 0, vi 4, vr b1, vi 2, .unset] [(.int 4), (.int 0), (.ref a0)]) (fun _ k => XS.iloadN X2.here hx rfl (hb hby d9_22) rfl k) ?_
    have f23 := (Arv.keep f3 Kc2 (ninS ne1_0 nin0))
    have O24 := (O4.keep Kc2 (allS gb1 all0))
    have K25 := (((Keep.refl h0 []).ext E1).trans Kc2 (allS (Or.inr sb1) all0))
    obtain ⟨_, _, ⟨T22, L22, k22, n22⟩, -, X22, ⟨Lc22, hQ22, l22, y22, z22⟩, st22⟩ := callS X2 hx (y := mq15) hown (mvT hZ (hW hw 77 rfl)) (mvT hZ (hW hw 78 rfl)) (mvT hZ (hW hw 47 rfl)) (mvT hZ (hW hw 79 rfl)) (by decide) (backOf (W := 0) (rm174 l Z a0' hw [] a0 ka x0 x1 x2 x3 G1 w_sf T2.heap n0 O24 W f23) hZ (hW hw 79 rfl) (hW hw 47 rfl) (by decide) (by decide)) (g := (mkF m 23 #[vr a0, vi 0, vi 4, vr b1, vi 2, .unset] [(.int 4), (.int 0), (.ref a0)])) rfl (by rw [hml]; rfl) (argsL := [(.ref a0), (.int 0), (.int 4)]) (rest := []) (lenOf pd217 rfl) rfl (Nat.le_of_eq rfl) (hb hby d9_23) (fun _ _ => ⟨rfl, rfl, (by decide : 1 + 1 ≤ _), (by decide : 4 + 8 ≤ _)⟩)
    dsimp only [Pt.U, Pt.locs, Pt.cells, Pt.slots] at X22 l22 y22 z22 st22 hQ22
    subst l22 y22 z22
    obtain ⟨b_22, kb_22, rfl, N22q, Kc22, fc22_0, fc22_1⟩ := hQ22
    have N22 := Fr.app N2 N22q
    have nb26 : a0 ≠ b_22 := Nat.ne_of_lt (Nat.lt_of_lt_of_le f23.lt fc22_1)
    refine gb (mkF m 26 #[vr a0, vi 0, vi 4, vr b1, vi 2, .unset] [(.ref b_22)]) st22 ?_
    refine gb (mkF m 28 #[vr a0, vi 0, vi 4, vr b1, vi 2, vr b_22] []) (fun _ k => XS.astore X22.here hx rfl (hb hby d9_26) rfl rfl (l' := #[vr a0, vi 0, vi 4, vr b1, vi 2, vr b_22]) rfl k) ?_
    refine gb (mkF m 30 #[vr a0, vi 0, vi 4, vr b1, vi 2, vr b_22] [(.ref b_22)]) (fun _ k => XS.aload X22.here hx rfl (hb hby d9_28) rfl rfl k) ?_
    refine gb (mkF m 32 #[vr a0, vi 0, vi 4, vr b1, vi 2, vr b_22] [(.int 2), (.ref b_22)]) (fun _ k => XS.iload X22.here hx rfl (hb hby d9_30) rfl k) ?_
    have O28 := (O24.keep Kc22 all0)
    obtain ⟨_, _, ⟨T27, L27, k27, n27⟩, -, X27, ⟨Lc27, hQ27, l27, y27, z27⟩, st27⟩ := callS X22 hx (y := mq5) hown (mvT hZ (hW hw 93 rfl)) (mvT hZ (hW hw 94 rfl)) (mvT hZ (hW hw 47 rfl)) (mvT hZ (hW hw 95 rfl)) (by decide) (backOf (W := 0) (rm21 l Z a0' hw [] b_22 (2 : Int32) kb_22 (8 : Int32) [(bA x0), (bB x0), (bA x1), (bB x1), (bA x2), (bB x2), (bA x3), (bB x3)] G1 w_sf T22.heap n0 O28 W fc22_0 (by decide) (by decide)) hZ (hW hw 95 rfl) (hW hw 47 rfl) (by decide) (by decide)) (g := (mkF m 32 #[vr a0, vi 0, vi 4, vr b1, vi 2, vr b_22] [(.int 2), (.ref b_22)])) rfl (by rw [hml]; rfl) (argsL := [(.ref b_22), (.int 2)]) (rest := []) (lenOf pd69 rfl) rfl (Nat.le_of_eq rfl) (hb hby d9_32) (fun _ _ => ⟨rfl, rfl, (by decide : 2 + 0 ≤ _), (by decide : 12 + 0 ≤ _)⟩)
    dsimp only [Pt.U, Pt.locs, Pt.cells, Pt.slots] at X27 l27 y27 z27 st27 hQ27
    subst l27 y27 z27
    obtain ⟨rfl, N27q, e27⟩ := hQ27
    have N27 := Fr.app N22 N27q
    refine gb (mkF m 35 #[vr a0, vi 0, vi 4, vr b1, vi 2, vr b_22] [(.int (fn21 (2 : Int32) [(bA x0), (bB x0), (bA x1), (bB x1), (bA x2), (bB x2), (bA x3), (bB x3)] G1 w_sf))]) st27 ?_
    refine gb (mkF m 38 #[vr a0, vi 0, vi 4, vr b1, vi 2, vr b_22] [(.int 255), (.int (fn21 (2 : Int32) [(bA x0), (bB x0), (bA x1), (bB x1), (bA x2), (bB x2), (bA x3), (bB x3)] G1 w_sf))]) (fun _ k => XS.sipush X27.here hx rfl (hb hby d9_35) k) ?_
    refine gb (mkF m 54 #[vr a0, vi 0, vi 4, vr b1, vi 2, vr b_22] []) (fun _ k => XS.icmpYes X27.here hx rfl (pc0 := 38) (pc' := 54) rfl (hb hby d9_38) rfl (tlt (by rw [show (fn21 (2 : Int32) [(bA x0), (bB x0), (bA x1), (bB x1), (bA x2), (bB x2), (bA x3), (bB x3)] G1 w_sf) = nar .char x2 from at21  (i := (2 : Int32)) (congrArg (fun k => List.getD [(bA x0), (bB x0), (bA x1), (bB x1), (bA x2), (bB x2), (bA x3), (bB x3)] k 0) (by decide : ((2 : Int32) <<< ((1 : Int32) &&& 31)).toNatClampNeg = 4)) (congrArg (fun k => List.getD [(bA x0), (bB x0), (bA x1), (bB x1), (bA x2), (bB x2), (bA x3), (bB x3)] k 0) (by decide : (((2 : Int32) <<< ((1 : Int32) &&& 31)) + (1 : Int32)).toNatClampNeg = 5)), hc2]; exact hy)).2.2.1 (by decide) (by decide) k) ?_
    refine gb (mkF m 56 #[vr a0, vi 0, vi 4, vr b1, vi 2, vr b_22] [(.ref b_22)]) (fun _ k => XS.aload X27.here hx rfl (hb hby d9_54) rfl rfl k) ?_
    have K29 := (K25.trans Kc22 all0)
    exact Gl.outA X27 hx hk Bd.returns rfl rfl (hb hby d9_56) (Eq.mpr (congrArg (fun hh => Q94 Z a0 ka x0 x1 x2 x3 G1 w_sf h0 n0 _ hh _) e27) (show Q94 Z a0 ka x0 x1 x2 x3 G1 w_sf h0 n0 _ T22.heap _ from ⟨b_22, kb_22, rfl, N27, K29, (Nat.le_trans K25.1 fc22_1), (Or.inr ⟨(Or.inr (Or.inr (Or.inl hy))), fc22_0⟩)⟩)) (by decide) (by decide)
  · refine gb (mkF m 14 #[vr a0, vi 0, vi 4, vr b1, vi 3, .unset] []) (fun _ k => XS.istore X2.here hx rfl (hb hby d9_12) rfl (l' := #[vr a0, vi 0, vi 4, vr b1, vi 3, .unset]) rfl k) ?_
    refine gb (mkF m 16 #[vr a0, vi 0, vi 4, vr b1, vi 3, .unset] [(.int 3)]) (fun _ k => XS.iload X2.here hx rfl (hb hby d9_14) rfl k) ?_
    refine gb (mkF m 17 #[vr a0, vi 0, vi 4, vr b1, vi 3, .unset] [(.int 4), (.int 3)]) (fun _ k => XS.iloadN X2.here hx rfl (hb hby d9_16) rfl k) ?_
    refine gb (mkF m 20 #[vr a0, vi 0, vi 4, vr b1, vi 3, .unset] []) (fun _ k => XS.icmpNo X2.here hx rfl (hb hby d9_17) rfl (feq (by decide : ¬ ((3 : Int32) = (4 : Int32)))).1 k) ?_
    refine gb (mkF m 21 #[vr a0, vi 0, vi 4, vr b1, vi 3, .unset] [(.ref a0)]) (fun _ k => XS.aloadN X2.here hx rfl (hb hby d9_20) rfl rfl k) ?_
    refine gb (mkF m 22 #[vr a0, vi 0, vi 4, vr b1, vi 3, .unset] [(.int 0), (.ref a0)]) (fun _ k => XS.iloadN X2.here hx rfl (hb hby d9_21) rfl k) ?_
    refine gb (mkF m 23 #[vr a0, vi 0, vi 4, vr b1, vi 3, .unset] [(.int 4), (.int 0), (.ref a0)]) (fun _ k => XS.iloadN X2.here hx rfl (hb hby d9_22) rfl k) ?_
    have f31 := (Arv.keep f3 Kc2 (ninS ne1_0 nin0))
    have O32 := (O4.keep Kc2 (allS gb1 all0))
    have K33 := (((Keep.refl h0 []).ext E1).trans Kc2 (allS (Or.inr sb1) all0))
    obtain ⟨_, _, ⟨T30, L30, k30, n30⟩, -, X30, ⟨Lc30, hQ30, l30, y30, z30⟩, st30⟩ := callS X2 hx (y := mq15) hown (mvT hZ (hW hw 77 rfl)) (mvT hZ (hW hw 78 rfl)) (mvT hZ (hW hw 47 rfl)) (mvT hZ (hW hw 79 rfl)) (by decide) (backOf (W := 0) (rm174 l Z a0' hw [] a0 ka x0 x1 x2 x3 G1 w_sf T2.heap n0 O32 W f31) hZ (hW hw 79 rfl) (hW hw 47 rfl) (by decide) (by decide)) (g := (mkF m 23 #[vr a0, vi 0, vi 4, vr b1, vi 3, .unset] [(.int 4), (.int 0), (.ref a0)])) rfl (by rw [hml]; rfl) (argsL := [(.ref a0), (.int 0), (.int 4)]) (rest := []) (lenOf pd217 rfl) rfl (Nat.le_of_eq rfl) (hb hby d9_23) (fun _ _ => ⟨rfl, rfl, (by decide : 1 + 1 ≤ _), (by decide : 4 + 8 ≤ _)⟩)
    dsimp only [Pt.U, Pt.locs, Pt.cells, Pt.slots] at X30 l30 y30 z30 st30 hQ30
    subst l30 y30 z30
    obtain ⟨b_30, kb_30, rfl, N30q, Kc30, fc30_0, fc30_1⟩ := hQ30
    have N30 := Fr.app N2 N30q
    have nb34 : a0 ≠ b_30 := Nat.ne_of_lt (Nat.lt_of_lt_of_le f31.lt fc30_1)
    refine gb (mkF m 26 #[vr a0, vi 0, vi 4, vr b1, vi 3, .unset] [(.ref b_30)]) st30 ?_
    refine gb (mkF m 28 #[vr a0, vi 0, vi 4, vr b1, vi 3, vr b_30] []) (fun _ k => XS.astore X30.here hx rfl (hb hby d9_26) rfl rfl (l' := #[vr a0, vi 0, vi 4, vr b1, vi 3, vr b_30]) rfl k) ?_
    refine gb (mkF m 30 #[vr a0, vi 0, vi 4, vr b1, vi 3, vr b_30] [(.ref b_30)]) (fun _ k => XS.aload X30.here hx rfl (hb hby d9_28) rfl rfl k) ?_
    refine gb (mkF m 32 #[vr a0, vi 0, vi 4, vr b1, vi 3, vr b_30] [(.int 3), (.ref b_30)]) (fun _ k => XS.iload X30.here hx rfl (hb hby d9_30) rfl k) ?_
    have O36 := (O32.keep Kc30 all0)
    obtain ⟨_, _, ⟨T35, L35, k35, n35⟩, -, X35, ⟨Lc35, hQ35, l35, y35, z35⟩, st35⟩ := callS X30 hx (y := mq5) hown (mvT hZ (hW hw 93 rfl)) (mvT hZ (hW hw 94 rfl)) (mvT hZ (hW hw 47 rfl)) (mvT hZ (hW hw 95 rfl)) (by decide) (backOf (W := 0) (rm21 l Z a0' hw [] b_30 (3 : Int32) kb_30 (8 : Int32) [(bA x0), (bB x0), (bA x1), (bB x1), (bA x2), (bB x2), (bA x3), (bB x3)] G1 w_sf T30.heap n0 O36 W fc30_0 (by decide) (by decide)) hZ (hW hw 95 rfl) (hW hw 47 rfl) (by decide) (by decide)) (g := (mkF m 32 #[vr a0, vi 0, vi 4, vr b1, vi 3, vr b_30] [(.int 3), (.ref b_30)])) rfl (by rw [hml]; rfl) (argsL := [(.ref b_30), (.int 3)]) (rest := []) (lenOf pd69 rfl) rfl (Nat.le_of_eq rfl) (hb hby d9_32) (fun _ _ => ⟨rfl, rfl, (by decide : 2 + 0 ≤ _), (by decide : 12 + 0 ≤ _)⟩)
    dsimp only [Pt.U, Pt.locs, Pt.cells, Pt.slots] at X35 l35 y35 z35 st35 hQ35
    subst l35 y35 z35
    obtain ⟨rfl, N35q, e35⟩ := hQ35
    have N35 := Fr.app N30 N35q
    refine gb (mkF m 35 #[vr a0, vi 0, vi 4, vr b1, vi 3, vr b_30] [(.int (fn21 (3 : Int32) [(bA x0), (bB x0), (bA x1), (bB x1), (bA x2), (bB x2), (bA x3), (bB x3)] G1 w_sf))]) st35 ?_
    refine gb (mkF m 38 #[vr a0, vi 0, vi 4, vr b1, vi 3, vr b_30] [(.int 255), (.int (fn21 (3 : Int32) [(bA x0), (bB x0), (bA x1), (bB x1), (bA x2), (bB x2), (bA x3), (bB x3)] G1 w_sf))]) (fun _ k => XS.sipush X35.here hx rfl (hb hby d9_35) k) ?_
    refine gb (mkF m 54 #[vr a0, vi 0, vi 4, vr b1, vi 3, vr b_30] []) (fun _ k => XS.icmpYes X35.here hx rfl (pc0 := 38) (pc' := 54) rfl (hb hby d9_38) rfl (tlt (by rw [show (fn21 (3 : Int32) [(bA x0), (bB x0), (bA x1), (bB x1), (bA x2), (bB x2), (bA x3), (bB x3)] G1 w_sf) = nar .char x3 from at21  (i := (3 : Int32)) (congrArg (fun k => List.getD [(bA x0), (bB x0), (bA x1), (bB x1), (bA x2), (bB x2), (bA x3), (bB x3)] k 0) (by decide : ((3 : Int32) <<< ((1 : Int32) &&& 31)).toNatClampNeg = 6)) (congrArg (fun k => List.getD [(bA x0), (bB x0), (bA x1), (bB x1), (bA x2), (bB x2), (bA x3), (bB x3)] k 0) (by decide : (((3 : Int32) <<< ((1 : Int32) &&& 31)) + (1 : Int32)).toNatClampNeg = 7)), hc3]; exact hy)).2.2.1 (by decide) (by decide) k) ?_
    refine gb (mkF m 56 #[vr a0, vi 0, vi 4, vr b1, vi 3, vr b_30] [(.ref b_30)]) (fun _ k => XS.aload X35.here hx rfl (hb hby d9_54) rfl rfl k) ?_
    have K37 := (K33.trans Kc30 all0)
    exact Gl.outA X35 hx hk Bd.returns rfl rfl (hb hby d9_56) (Eq.mpr (congrArg (fun hh => Q94 Z a0 ka x0 x1 x2 x3 G1 w_sf h0 n0 _ hh _) e35) (show Q94 Z a0 ka x0 x1 x2 x3 G1 w_sf h0 n0 _ T30.heap _ from ⟨b_30, kb_30, rfl, N35, K37, (Nat.le_trans K33.1 fc30_1), (Or.inr ⟨(Or.inr (Or.inr (Or.inr (hy)))), fc30_0⟩)⟩)) (by decide) (by decide)
theorem d11_0 : decode jdk_52_method_15_code 0 = .ok (.iload_n 1, 1) := by decide +kernel
theorem d11_1 : decode jdk_52_method_15_code 1 = .ok (.aload_n 0, 1) := by decide +kernel
theorem d11_2 : decode jdk_52_method_15_code 2 = .ok (.arraylength, 1) := by decide +kernel
theorem d11_3 : decode jdk_52_method_15_code 3 = .ok (.isub, 1) := by decide +kernel
theorem d11_4 : decode jdk_52_method_15_code 4 = .ok (.bipush 31, 2) := by decide +kernel
theorem d11_6 : decode jdk_52_method_15_code 6 = .ok (.iushr, 1) := by decide +kernel
theorem d11_7 : decode jdk_52_method_15_code 7 = .ok (.i2b, 1) := by decide +kernel
theorem d11_8 : decode jdk_52_method_15_code 8 = .ok (.ireturn, 1) := by decide +kernel
theorem ef111_1 (m : MethodId) (x0 : Addr) (x1 : Int32) : entryFrame m #[(.ref x0), (.int x1)] 2 = mkF m 0 #[.val (.ref x0), .val (.int x1)] [] := by first | (simp [entryFrame, mkF, argsToLocals, Value.category]; done) | rfl
def Q111_1 (Z : State) (a0 : Addr) (kb : ClassId) (vv : List Value) (G1 : Int32) (w_sf : Value) (h0 : Heap) (n0 : Nat) (v : Option Value) (h : Heap) (L : List Loc) : Prop := v = some (.int 0) ∧ Fr n0 L ∧ h = h0
theorem rm111_1 (l : Launch) (Z : State) (a0' : Array Value) (hw : ∀ d ∈ tables_1, d.before a0' Z = true) (ws : List Jvm.Cond) (a0 : Addr) (kb : ClassId) (vv : List Value) (G1 : Int32) (w_sf : Value) (h0 : Heap) (n0 : Nat) (O : Old Z n0 h0) (W : Wd Z G1 w_sf) (pf0 : Arv Z h0 a0 kb .byte (1 : Int32) vv (.int 0)) :
    MetFree l mq17 (head1 (Jvm.Cond.code mq17 jdk_52_method_15_code 2 (some .byte) :: ws) ({ frames := 0, cells := 0, slots := 0, locals := 0 } : Room)) (fun a U => a = #[(.ref a0), (.int 1)] ∧ Z.Warmed39 U.vm ∧ U.heap = h0) (fun _ _ _ _ _ => True) (fun _ U o U' => ∃ v L, o = .returned v ∧ Q111_1 Z a0 kb vv G1 w_sf h0 n0 v U'.heap L ∧ FrameEnd U o U' L ({ frames := 0, cells := 0, slots := 0, locals := 0 } : Room).cells ({ frames := 0, cells := 0, slots := 0, locals := 0 } : Room).slots) := by
  refine MetFree.of_bodySF (plainFor_of_name pn3) hisR ?_
  intro p e s m args below meth c s₁ Bd hml0 hP hK
  obtain ⟨rfl, hZ, hh⟩ := hP
  have hx := Bd.exec
  have hby := Bd.bytes
  have hml : c.maxLocals = 2 := hml0
  have hown : s.vm.findClass "java/lang/StringUTF16" = some m.cls := findClass_of_methodNamed Bd.named
  have hnm := (name_of_methodNamed Bd.named Bd.method).1
  have hk := Bd.notSynchronized
  have X0 : Stand p l e ({ frames := 0, cells := 0, slots := 0, locals := 0 } : Room) s m #[(.ref a0), (.int 1)] below meth c s₁ [] 0 0 := Stand.of_body Bd
  have hh2 := hh
  have e0 : s₁.heap = h0 := by rw [← hh, Bd.state]; rfl
  have N0 := Fr.nil n0
  show Gl p e below (Pos 0 0 (Q111_1 Z a0 kb vv G1 w_sf h0 n0) s) s₁ _
  refine Gl.cast (ef111_1 m a0 (1 : Int32)) ?_
  refine gb (mkF m 1 #[vr a0, vi 1] [(.int 1)]) (fun _ k => XS.iloadN X0.here hx rfl (hb hby d11_0) rfl k) ?_
  refine gb (mkF m 2 #[vr a0, vi 1] [(.ref a0), (.int 1)]) (fun _ k => XS.aloadN X0.here hx rfl (hb hby d11_1) rfl rfl k) ?_
  obtain ⟨cl1, Ar1, qa1, Sa1, Na1, Ha1, Ga1⟩ := id pf0
  refine gb (mkF m 3 #[vr a0, vi 1] [(.int 1), (.int 1)]) (fun t k => X0.arraylength hx (by rw [e0]; exact Ar1.1) (State.isArrayOf_alike hZ.alike Ar1.2.1) (g := (mkF m 2 #[vr a0, vi 1] [(.ref a0), (.int 1)])) rfl rfl (hb hby d11_2) t (by rw [len_of Sa1 Na1]; exact k)) ?_
  refine gb (mkF m 4 #[vr a0, vi 1] [(.int ((1 : Int32) - (1 : Int32)))]) (fun _ k => XS.isub X0.here hx rfl (hb hby d11_3) rfl k) ?_
  refine gb (mkF m 6 #[vr a0, vi 1] [(.int 31), (.int ((1 : Int32) - (1 : Int32)))]) (fun _ k => XS.bipush X0.here hx rfl (hb hby d11_4) k) ?_
  refine gb (mkF m 7 #[vr a0, vi 1] [(.int ((((1 : Int32) - (1 : Int32)).toUInt32 >>> ((31 : Int32) &&& 31).toUInt32).toInt32))]) (fun _ k => XS.iushr X0.here hx rfl (hb hby d11_6) rfl k) ?_
  refine gb (mkF m 8 #[vr a0, vi 1] [(.int (((((1 : Int32) - (1 : Int32)).toUInt32 >>> ((31 : Int32) &&& 31).toUInt32).toInt32).toInt8.toInt32))]) (fun _ k => XS.i2b X0.here hx rfl (hb hby d11_7) rfl k) ?_
  exact Gl.outN X0 hx hk (t := .byte) Bd.returns (by simp) (hb hby d11_8) ⟨(congrArg (fun z => some (Value.int z)) (by decide : nar .byte (((((1 : Int32) - (1 : Int32)).toUInt32 >>> ((31 : Int32) &&& 31).toUInt32).toInt32).toInt8.toInt32) = (0 : Int32))), N0, e0⟩ (by decide) (by decide)
theorem ef111_2 (m : MethodId) (x0 : Addr) (x1 : Int32) : entryFrame m #[(.ref x0), (.int x1)] 2 = mkF m 0 #[.val (.ref x0), .val (.int x1)] [] := by first | (simp [entryFrame, mkF, argsToLocals, Value.category]; done) | rfl
def Q111_2 (Z : State) (a0 : Addr) (kb : ClassId) (vv : List Value) (G1 : Int32) (w_sf : Value) (h0 : Heap) (n0 : Nat) (v : Option Value) (h : Heap) (L : List Loc) : Prop := v = some (.int 1) ∧ Fr n0 L ∧ h = h0
theorem rm111_2 (l : Launch) (Z : State) (a0' : Array Value) (hw : ∀ d ∈ tables_1, d.before a0' Z = true) (ws : List Jvm.Cond) (a0 : Addr) (kb : ClassId) (vv : List Value) (G1 : Int32) (w_sf : Value) (h0 : Heap) (n0 : Nat) (O : Old Z n0 h0) (W : Wd Z G1 w_sf) (pf0 : Arv Z h0 a0 kb .byte (2 : Int32) vv (.int 0)) :
    MetFree l mq17 (head1 (Jvm.Cond.code mq17 jdk_52_method_15_code 2 (some .byte) :: ws) ({ frames := 0, cells := 0, slots := 0, locals := 0 } : Room)) (fun a U => a = #[(.ref a0), (.int 1)] ∧ Z.Warmed39 U.vm ∧ U.heap = h0) (fun _ _ _ _ _ => True) (fun _ U o U' => ∃ v L, o = .returned v ∧ Q111_2 Z a0 kb vv G1 w_sf h0 n0 v U'.heap L ∧ FrameEnd U o U' L ({ frames := 0, cells := 0, slots := 0, locals := 0 } : Room).cells ({ frames := 0, cells := 0, slots := 0, locals := 0 } : Room).slots) := by
  refine MetFree.of_bodySF (plainFor_of_name pn3) hisR ?_
  intro p e s m args below meth c s₁ Bd hml0 hP hK
  obtain ⟨rfl, hZ, hh⟩ := hP
  have hx := Bd.exec
  have hby := Bd.bytes
  have hml : c.maxLocals = 2 := hml0
  have hown : s.vm.findClass "java/lang/StringUTF16" = some m.cls := findClass_of_methodNamed Bd.named
  have hnm := (name_of_methodNamed Bd.named Bd.method).1
  have hk := Bd.notSynchronized
  have X0 : Stand p l e ({ frames := 0, cells := 0, slots := 0, locals := 0 } : Room) s m #[(.ref a0), (.int 1)] below meth c s₁ [] 0 0 := Stand.of_body Bd
  have hh2 := hh
  have e0 : s₁.heap = h0 := by rw [← hh, Bd.state]; rfl
  have N0 := Fr.nil n0
  show Gl p e below (Pos 0 0 (Q111_2 Z a0 kb vv G1 w_sf h0 n0) s) s₁ _
  refine Gl.cast (ef111_2 m a0 (1 : Int32)) ?_
  refine gb (mkF m 1 #[vr a0, vi 1] [(.int 1)]) (fun _ k => XS.iloadN X0.here hx rfl (hb hby d11_0) rfl k) ?_
  refine gb (mkF m 2 #[vr a0, vi 1] [(.ref a0), (.int 1)]) (fun _ k => XS.aloadN X0.here hx rfl (hb hby d11_1) rfl rfl k) ?_
  obtain ⟨cl1, Ar1, qa1, Sa1, Na1, Ha1, Ga1⟩ := id pf0
  refine gb (mkF m 3 #[vr a0, vi 1] [(.int 2), (.int 1)]) (fun t k => X0.arraylength hx (by rw [e0]; exact Ar1.1) (State.isArrayOf_alike hZ.alike Ar1.2.1) (g := (mkF m 2 #[vr a0, vi 1] [(.ref a0), (.int 1)])) rfl rfl (hb hby d11_2) t (by rw [len_of Sa1 Na1]; exact k)) ?_
  refine gb (mkF m 4 #[vr a0, vi 1] [(.int ((1 : Int32) - (2 : Int32)))]) (fun _ k => XS.isub X0.here hx rfl (hb hby d11_3) rfl k) ?_
  refine gb (mkF m 6 #[vr a0, vi 1] [(.int 31), (.int ((1 : Int32) - (2 : Int32)))]) (fun _ k => XS.bipush X0.here hx rfl (hb hby d11_4) k) ?_
  refine gb (mkF m 7 #[vr a0, vi 1] [(.int ((((1 : Int32) - (2 : Int32)).toUInt32 >>> ((31 : Int32) &&& 31).toUInt32).toInt32))]) (fun _ k => XS.iushr X0.here hx rfl (hb hby d11_6) rfl k) ?_
  refine gb (mkF m 8 #[vr a0, vi 1] [(.int (((((1 : Int32) - (2 : Int32)).toUInt32 >>> ((31 : Int32) &&& 31).toUInt32).toInt32).toInt8.toInt32))]) (fun _ k => XS.i2b X0.here hx rfl (hb hby d11_7) rfl k) ?_
  exact Gl.outN X0 hx hk (t := .byte) Bd.returns (by simp) (hb hby d11_8) ⟨(congrArg (fun z => some (Value.int z)) (by decide : nar .byte (((((1 : Int32) - (2 : Int32)).toUInt32 >>> ((31 : Int32) &&& 31).toUInt32).toInt32).toInt8.toInt32) = (1 : Int32))), N0, e0⟩ (by decide) (by decide)
theorem ef112_2 (m : MethodId) (x0 : Addr) (x1 : Int32) : entryFrame m #[(.ref x0), (.int x1)] 2 = mkF m 0 #[.val (.ref x0), .val (.int x1)] [] := by first | (simp [entryFrame, mkF, argsToLocals, Value.category]; done) | rfl
def Q112_2 (Z : State) (a0 : Addr) (kb : ClassId) (vv : List Value) (G1 : Int32) (w_sf : Value) (h0 : Heap) (n0 : Nat) (v : Option Value) (h : Heap) (L : List Loc) : Prop := v = some (.int 0) ∧ Fr n0 L ∧ h = h0
theorem rm112_2 (l : Launch) (Z : State) (a0' : Array Value) (hw : ∀ d ∈ tables_1, d.before a0' Z = true) (ws : List Jvm.Cond) (a0 : Addr) (kb : ClassId) (vv : List Value) (G1 : Int32) (w_sf : Value) (h0 : Heap) (n0 : Nat) (O : Old Z n0 h0) (W : Wd Z G1 w_sf) (pf0 : Arv Z h0 a0 kb .byte (2 : Int32) vv (.int 0)) :
    MetFree l mq17 (head1 (Jvm.Cond.code mq17 jdk_52_method_15_code 2 (some .byte) :: ws) ({ frames := 0, cells := 0, slots := 0, locals := 0 } : Room)) (fun a U => a = #[(.ref a0), (.int 2)] ∧ Z.Warmed39 U.vm ∧ U.heap = h0) (fun _ _ _ _ _ => True) (fun _ U o U' => ∃ v L, o = .returned v ∧ Q112_2 Z a0 kb vv G1 w_sf h0 n0 v U'.heap L ∧ FrameEnd U o U' L ({ frames := 0, cells := 0, slots := 0, locals := 0 } : Room).cells ({ frames := 0, cells := 0, slots := 0, locals := 0 } : Room).slots) := by
  refine MetFree.of_bodySF (plainFor_of_name pn3) hisR ?_
  intro p e s m args below meth c s₁ Bd hml0 hP hK
  obtain ⟨rfl, hZ, hh⟩ := hP
  have hx := Bd.exec
  have hby := Bd.bytes
  have hml : c.maxLocals = 2 := hml0
  have hown : s.vm.findClass "java/lang/StringUTF16" = some m.cls := findClass_of_methodNamed Bd.named
  have hnm := (name_of_methodNamed Bd.named Bd.method).1
  have hk := Bd.notSynchronized
  have X0 : Stand p l e ({ frames := 0, cells := 0, slots := 0, locals := 0 } : Room) s m #[(.ref a0), (.int 2)] below meth c s₁ [] 0 0 := Stand.of_body Bd
  have hh2 := hh
  have e0 : s₁.heap = h0 := by rw [← hh, Bd.state]; rfl
  have N0 := Fr.nil n0
  show Gl p e below (Pos 0 0 (Q112_2 Z a0 kb vv G1 w_sf h0 n0) s) s₁ _
  refine Gl.cast (ef112_2 m a0 (2 : Int32)) ?_
  refine gb (mkF m 1 #[vr a0, vi 2] [(.int 2)]) (fun _ k => XS.iloadN X0.here hx rfl (hb hby d11_0) rfl k) ?_
  refine gb (mkF m 2 #[vr a0, vi 2] [(.ref a0), (.int 2)]) (fun _ k => XS.aloadN X0.here hx rfl (hb hby d11_1) rfl rfl k) ?_
  obtain ⟨cl1, Ar1, qa1, Sa1, Na1, Ha1, Ga1⟩ := id pf0
  refine gb (mkF m 3 #[vr a0, vi 2] [(.int 2), (.int 2)]) (fun t k => X0.arraylength hx (by rw [e0]; exact Ar1.1) (State.isArrayOf_alike hZ.alike Ar1.2.1) (g := (mkF m 2 #[vr a0, vi 2] [(.ref a0), (.int 2)])) rfl rfl (hb hby d11_2) t (by rw [len_of Sa1 Na1]; exact k)) ?_
  refine gb (mkF m 4 #[vr a0, vi 2] [(.int ((2 : Int32) - (2 : Int32)))]) (fun _ k => XS.isub X0.here hx rfl (hb hby d11_3) rfl k) ?_
  refine gb (mkF m 6 #[vr a0, vi 2] [(.int 31), (.int ((2 : Int32) - (2 : Int32)))]) (fun _ k => XS.bipush X0.here hx rfl (hb hby d11_4) k) ?_
  refine gb (mkF m 7 #[vr a0, vi 2] [(.int ((((2 : Int32) - (2 : Int32)).toUInt32 >>> ((31 : Int32) &&& 31).toUInt32).toInt32))]) (fun _ k => XS.iushr X0.here hx rfl (hb hby d11_6) rfl k) ?_
  refine gb (mkF m 8 #[vr a0, vi 2] [(.int (((((2 : Int32) - (2 : Int32)).toUInt32 >>> ((31 : Int32) &&& 31).toUInt32).toInt32).toInt8.toInt32))]) (fun _ k => XS.i2b X0.here hx rfl (hb hby d11_7) rfl k) ?_
  exact Gl.outN X0 hx hk (t := .byte) Bd.returns (by simp) (hb hby d11_8) ⟨(congrArg (fun z => some (Value.int z)) (by decide : nar .byte (((((2 : Int32) - (2 : Int32)).toUInt32 >>> ((31 : Int32) &&& 31).toUInt32).toInt32).toInt8.toInt32) = (0 : Int32))), N0, e0⟩ (by decide) (by decide)
theorem ef112_4 (m : MethodId) (x0 : Addr) (x1 : Int32) : entryFrame m #[(.ref x0), (.int x1)] 2 = mkF m 0 #[.val (.ref x0), .val (.int x1)] [] := by first | (simp [entryFrame, mkF, argsToLocals, Value.category]; done) | rfl
def Q112_4 (Z : State) (a0 : Addr) (kb : ClassId) (vv : List Value) (G1 : Int32) (w_sf : Value) (h0 : Heap) (n0 : Nat) (v : Option Value) (h : Heap) (L : List Loc) : Prop := v = some (.int 1) ∧ Fr n0 L ∧ h = h0
theorem rm112_4 (l : Launch) (Z : State) (a0' : Array Value) (hw : ∀ d ∈ tables_1, d.before a0' Z = true) (ws : List Jvm.Cond) (a0 : Addr) (kb : ClassId) (vv : List Value) (G1 : Int32) (w_sf : Value) (h0 : Heap) (n0 : Nat) (O : Old Z n0 h0) (W : Wd Z G1 w_sf) (pf0 : Arv Z h0 a0 kb .byte (4 : Int32) vv (.int 0)) :
    MetFree l mq17 (head1 (Jvm.Cond.code mq17 jdk_52_method_15_code 2 (some .byte) :: ws) ({ frames := 0, cells := 0, slots := 0, locals := 0 } : Room)) (fun a U => a = #[(.ref a0), (.int 2)] ∧ Z.Warmed39 U.vm ∧ U.heap = h0) (fun _ _ _ _ _ => True) (fun _ U o U' => ∃ v L, o = .returned v ∧ Q112_4 Z a0 kb vv G1 w_sf h0 n0 v U'.heap L ∧ FrameEnd U o U' L ({ frames := 0, cells := 0, slots := 0, locals := 0 } : Room).cells ({ frames := 0, cells := 0, slots := 0, locals := 0 } : Room).slots) := by
  refine MetFree.of_bodySF (plainFor_of_name pn3) hisR ?_
  intro p e s m args below meth c s₁ Bd hml0 hP hK
  obtain ⟨rfl, hZ, hh⟩ := hP
  have hx := Bd.exec
  have hby := Bd.bytes
  have hml : c.maxLocals = 2 := hml0
  have hown : s.vm.findClass "java/lang/StringUTF16" = some m.cls := findClass_of_methodNamed Bd.named
  have hnm := (name_of_methodNamed Bd.named Bd.method).1
  have hk := Bd.notSynchronized
  have X0 : Stand p l e ({ frames := 0, cells := 0, slots := 0, locals := 0 } : Room) s m #[(.ref a0), (.int 2)] below meth c s₁ [] 0 0 := Stand.of_body Bd
  have hh2 := hh
  have e0 : s₁.heap = h0 := by rw [← hh, Bd.state]; rfl
  have N0 := Fr.nil n0
  show Gl p e below (Pos 0 0 (Q112_4 Z a0 kb vv G1 w_sf h0 n0) s) s₁ _
  refine Gl.cast (ef112_4 m a0 (2 : Int32)) ?_
  refine gb (mkF m 1 #[vr a0, vi 2] [(.int 2)]) (fun _ k => XS.iloadN X0.here hx rfl (hb hby d11_0) rfl k) ?_
  refine gb (mkF m 2 #[vr a0, vi 2] [(.ref a0), (.int 2)]) (fun _ k => XS.aloadN X0.here hx rfl (hb hby d11_1) rfl rfl k) ?_
  obtain ⟨cl1, Ar1, qa1, Sa1, Na1, Ha1, Ga1⟩ := id pf0
  refine gb (mkF m 3 #[vr a0, vi 2] [(.int 4), (.int 2)]) (fun t k => X0.arraylength hx (by rw [e0]; exact Ar1.1) (State.isArrayOf_alike hZ.alike Ar1.2.1) (g := (mkF m 2 #[vr a0, vi 2] [(.ref a0), (.int 2)])) rfl rfl (hb hby d11_2) t (by rw [len_of Sa1 Na1]; exact k)) ?_
  refine gb (mkF m 4 #[vr a0, vi 2] [(.int ((2 : Int32) - (4 : Int32)))]) (fun _ k => XS.isub X0.here hx rfl (hb hby d11_3) rfl k) ?_
  refine gb (mkF m 6 #[vr a0, vi 2] [(.int 31), (.int ((2 : Int32) - (4 : Int32)))]) (fun _ k => XS.bipush X0.here hx rfl (hb hby d11_4) k) ?_
  refine gb (mkF m 7 #[vr a0, vi 2] [(.int ((((2 : Int32) - (4 : Int32)).toUInt32 >>> ((31 : Int32) &&& 31).toUInt32).toInt32))]) (fun _ k => XS.iushr X0.here hx rfl (hb hby d11_6) rfl k) ?_
  refine gb (mkF m 8 #[vr a0, vi 2] [(.int (((((2 : Int32) - (4 : Int32)).toUInt32 >>> ((31 : Int32) &&& 31).toUInt32).toInt32).toInt8.toInt32))]) (fun _ k => XS.i2b X0.here hx rfl (hb hby d11_7) rfl k) ?_
  exact Gl.outN X0 hx hk (t := .byte) Bd.returns (by simp) (hb hby d11_8) ⟨(congrArg (fun z => some (Value.int z)) (by decide : nar .byte (((((2 : Int32) - (4 : Int32)).toUInt32 >>> ((31 : Int32) &&& 31).toUInt32).toInt32).toInt8.toInt32) = (1 : Int32))), N0, e0⟩ (by decide) (by decide)
theorem ef113_3 (m : MethodId) (x0 : Addr) (x1 : Int32) : entryFrame m #[(.ref x0), (.int x1)] 2 = mkF m 0 #[.val (.ref x0), .val (.int x1)] [] := by first | (simp [entryFrame, mkF, argsToLocals, Value.category]; done) | rfl
def Q113_3 (Z : State) (a0 : Addr) (kb : ClassId) (vv : List Value) (G1 : Int32) (w_sf : Value) (h0 : Heap) (n0 : Nat) (v : Option Value) (h : Heap) (L : List Loc) : Prop := v = some (.int 0) ∧ Fr n0 L ∧ h = h0
theorem rm113_3 (l : Launch) (Z : State) (a0' : Array Value) (hw : ∀ d ∈ tables_1, d.before a0' Z = true) (ws : List Jvm.Cond) (a0 : Addr) (kb : ClassId) (vv : List Value) (G1 : Int32) (w_sf : Value) (h0 : Heap) (n0 : Nat) (O : Old Z n0 h0) (W : Wd Z G1 w_sf) (pf0 : Arv Z h0 a0 kb .byte (3 : Int32) vv (.int 0)) :
    MetFree l mq17 (head1 (Jvm.Cond.code mq17 jdk_52_method_15_code 2 (some .byte) :: ws) ({ frames := 0, cells := 0, slots := 0, locals := 0 } : Room)) (fun a U => a = #[(.ref a0), (.int 3)] ∧ Z.Warmed39 U.vm ∧ U.heap = h0) (fun _ _ _ _ _ => True) (fun _ U o U' => ∃ v L, o = .returned v ∧ Q113_3 Z a0 kb vv G1 w_sf h0 n0 v U'.heap L ∧ FrameEnd U o U' L ({ frames := 0, cells := 0, slots := 0, locals := 0 } : Room).cells ({ frames := 0, cells := 0, slots := 0, locals := 0 } : Room).slots) := by
  refine MetFree.of_bodySF (plainFor_of_name pn3) hisR ?_
  intro p e s m args below meth c s₁ Bd hml0 hP hK
  obtain ⟨rfl, hZ, hh⟩ := hP
  have hx := Bd.exec
  have hby := Bd.bytes
  have hml : c.maxLocals = 2 := hml0
  have hown : s.vm.findClass "java/lang/StringUTF16" = some m.cls := findClass_of_methodNamed Bd.named
  have hnm := (name_of_methodNamed Bd.named Bd.method).1
  have hk := Bd.notSynchronized
  have X0 : Stand p l e ({ frames := 0, cells := 0, slots := 0, locals := 0 } : Room) s m #[(.ref a0), (.int 3)] below meth c s₁ [] 0 0 := Stand.of_body Bd
  have hh2 := hh
  have e0 : s₁.heap = h0 := by rw [← hh, Bd.state]; rfl
  have N0 := Fr.nil n0
  show Gl p e below (Pos 0 0 (Q113_3 Z a0 kb vv G1 w_sf h0 n0) s) s₁ _
  refine Gl.cast (ef113_3 m a0 (3 : Int32)) ?_
  refine gb (mkF m 1 #[vr a0, vi 3] [(.int 3)]) (fun _ k => XS.iloadN X0.here hx rfl (hb hby d11_0) rfl k) ?_
  refine gb (mkF m 2 #[vr a0, vi 3] [(.ref a0), (.int 3)]) (fun _ k => XS.aloadN X0.here hx rfl (hb hby d11_1) rfl rfl k) ?_
  obtain ⟨cl1, Ar1, qa1, Sa1, Na1, Ha1, Ga1⟩ := id pf0
  refine gb (mkF m 3 #[vr a0, vi 3] [(.int 3), (.int 3)]) (fun t k => X0.arraylength hx (by rw [e0]; exact Ar1.1) (State.isArrayOf_alike hZ.alike Ar1.2.1) (g := (mkF m 2 #[vr a0, vi 3] [(.ref a0), (.int 3)])) rfl rfl (hb hby d11_2) t (by rw [len_of Sa1 Na1]; exact k)) ?_
  refine gb (mkF m 4 #[vr a0, vi 3] [(.int ((3 : Int32) - (3 : Int32)))]) (fun _ k => XS.isub X0.here hx rfl (hb hby d11_3) rfl k) ?_
  refine gb (mkF m 6 #[vr a0, vi 3] [(.int 31), (.int ((3 : Int32) - (3 : Int32)))]) (fun _ k => XS.bipush X0.here hx rfl (hb hby d11_4) k) ?_
  refine gb (mkF m 7 #[vr a0, vi 3] [(.int ((((3 : Int32) - (3 : Int32)).toUInt32 >>> ((31 : Int32) &&& 31).toUInt32).toInt32))]) (fun _ k => XS.iushr X0.here hx rfl (hb hby d11_6) rfl k) ?_
  refine gb (mkF m 8 #[vr a0, vi 3] [(.int (((((3 : Int32) - (3 : Int32)).toUInt32 >>> ((31 : Int32) &&& 31).toUInt32).toInt32).toInt8.toInt32))]) (fun _ k => XS.i2b X0.here hx rfl (hb hby d11_7) rfl k) ?_
  exact Gl.outN X0 hx hk (t := .byte) Bd.returns (by simp) (hb hby d11_8) ⟨(congrArg (fun z => some (Value.int z)) (by decide : nar .byte (((((3 : Int32) - (3 : Int32)).toUInt32 >>> ((31 : Int32) &&& 31).toUInt32).toInt32).toInt8.toInt32) = (0 : Int32))), N0, e0⟩ (by decide) (by decide)
theorem ef113_6 (m : MethodId) (x0 : Addr) (x1 : Int32) : entryFrame m #[(.ref x0), (.int x1)] 2 = mkF m 0 #[.val (.ref x0), .val (.int x1)] [] := by first | (simp [entryFrame, mkF, argsToLocals, Value.category]; done) | rfl
def Q113_6 (Z : State) (a0 : Addr) (kb : ClassId) (vv : List Value) (G1 : Int32) (w_sf : Value) (h0 : Heap) (n0 : Nat) (v : Option Value) (h : Heap) (L : List Loc) : Prop := v = some (.int 1) ∧ Fr n0 L ∧ h = h0
theorem rm113_6 (l : Launch) (Z : State) (a0' : Array Value) (hw : ∀ d ∈ tables_1, d.before a0' Z = true) (ws : List Jvm.Cond) (a0 : Addr) (kb : ClassId) (vv : List Value) (G1 : Int32) (w_sf : Value) (h0 : Heap) (n0 : Nat) (O : Old Z n0 h0) (W : Wd Z G1 w_sf) (pf0 : Arv Z h0 a0 kb .byte (6 : Int32) vv (.int 0)) :
    MetFree l mq17 (head1 (Jvm.Cond.code mq17 jdk_52_method_15_code 2 (some .byte) :: ws) ({ frames := 0, cells := 0, slots := 0, locals := 0 } : Room)) (fun a U => a = #[(.ref a0), (.int 3)] ∧ Z.Warmed39 U.vm ∧ U.heap = h0) (fun _ _ _ _ _ => True) (fun _ U o U' => ∃ v L, o = .returned v ∧ Q113_6 Z a0 kb vv G1 w_sf h0 n0 v U'.heap L ∧ FrameEnd U o U' L ({ frames := 0, cells := 0, slots := 0, locals := 0 } : Room).cells ({ frames := 0, cells := 0, slots := 0, locals := 0 } : Room).slots) := by
  refine MetFree.of_bodySF (plainFor_of_name pn3) hisR ?_
  intro p e s m args below meth c s₁ Bd hml0 hP hK
  obtain ⟨rfl, hZ, hh⟩ := hP
  have hx := Bd.exec
  have hby := Bd.bytes
  have hml : c.maxLocals = 2 := hml0
  have hown : s.vm.findClass "java/lang/StringUTF16" = some m.cls := findClass_of_methodNamed Bd.named
  have hnm := (name_of_methodNamed Bd.named Bd.method).1
  have hk := Bd.notSynchronized
  have X0 : Stand p l e ({ frames := 0, cells := 0, slots := 0, locals := 0 } : Room) s m #[(.ref a0), (.int 3)] below meth c s₁ [] 0 0 := Stand.of_body Bd
  have hh2 := hh
  have e0 : s₁.heap = h0 := by rw [← hh, Bd.state]; rfl
  have N0 := Fr.nil n0
  show Gl p e below (Pos 0 0 (Q113_6 Z a0 kb vv G1 w_sf h0 n0) s) s₁ _
  refine Gl.cast (ef113_6 m a0 (3 : Int32)) ?_
  refine gb (mkF m 1 #[vr a0, vi 3] [(.int 3)]) (fun _ k => XS.iloadN X0.here hx rfl (hb hby d11_0) rfl k) ?_
  refine gb (mkF m 2 #[vr a0, vi 3] [(.ref a0), (.int 3)]) (fun _ k => XS.aloadN X0.here hx rfl (hb hby d11_1) rfl rfl k) ?_
  obtain ⟨cl1, Ar1, qa1, Sa1, Na1, Ha1, Ga1⟩ := id pf0
  refine gb (mkF m 3 #[vr a0, vi 3] [(.int 6), (.int 3)]) (fun t k => X0.arraylength hx (by rw [e0]; exact Ar1.1) (State.isArrayOf_alike hZ.alike Ar1.2.1) (g := (mkF m 2 #[vr a0, vi 3] [(.ref a0), (.int 3)])) rfl rfl (hb hby d11_2) t (by rw [len_of Sa1 Na1]; exact k)) ?_
  refine gb (mkF m 4 #[vr a0, vi 3] [(.int ((3 : Int32) - (6 : Int32)))]) (fun _ k => XS.isub X0.here hx rfl (hb hby d11_3) rfl k) ?_
  refine gb (mkF m 6 #[vr a0, vi 3] [(.int 31), (.int ((3 : Int32) - (6 : Int32)))]) (fun _ k => XS.bipush X0.here hx rfl (hb hby d11_4) k) ?_
  refine gb (mkF m 7 #[vr a0, vi 3] [(.int ((((3 : Int32) - (6 : Int32)).toUInt32 >>> ((31 : Int32) &&& 31).toUInt32).toInt32))]) (fun _ k => XS.iushr X0.here hx rfl (hb hby d11_6) rfl k) ?_
  refine gb (mkF m 8 #[vr a0, vi 3] [(.int (((((3 : Int32) - (6 : Int32)).toUInt32 >>> ((31 : Int32) &&& 31).toUInt32).toInt32).toInt8.toInt32))]) (fun _ k => XS.i2b X0.here hx rfl (hb hby d11_7) rfl k) ?_
  exact Gl.outN X0 hx hk (t := .byte) Bd.returns (by simp) (hb hby d11_8) ⟨(congrArg (fun z => some (Value.int z)) (by decide : nar .byte (((((3 : Int32) - (6 : Int32)).toUInt32 >>> ((31 : Int32) &&& 31).toUInt32).toInt32).toInt8.toInt32) = (1 : Int32))), N0, e0⟩ (by decide) (by decide)
theorem ef114_4 (m : MethodId) (x0 : Addr) (x1 : Int32) : entryFrame m #[(.ref x0), (.int x1)] 2 = mkF m 0 #[.val (.ref x0), .val (.int x1)] [] := by first | (simp [entryFrame, mkF, argsToLocals, Value.category]; done) | rfl
def Q114_4 (Z : State) (a0 : Addr) (kb : ClassId) (vv : List Value) (G1 : Int32) (w_sf : Value) (h0 : Heap) (n0 : Nat) (v : Option Value) (h : Heap) (L : List Loc) : Prop := v = some (.int 0) ∧ Fr n0 L ∧ h = h0
theorem rm114_4 (l : Launch) (Z : State) (a0' : Array Value) (hw : ∀ d ∈ tables_1, d.before a0' Z = true) (ws : List Jvm.Cond) (a0 : Addr) (kb : ClassId) (vv : List Value) (G1 : Int32) (w_sf : Value) (h0 : Heap) (n0 : Nat) (O : Old Z n0 h0) (W : Wd Z G1 w_sf) (pf0 : Arv Z h0 a0 kb .byte (4 : Int32) vv (.int 0)) :
    MetFree l mq17 (head1 (Jvm.Cond.code mq17 jdk_52_method_15_code 2 (some .byte) :: ws) ({ frames := 0, cells := 0, slots := 0, locals := 0 } : Room)) (fun a U => a = #[(.ref a0), (.int 4)] ∧ Z.Warmed39 U.vm ∧ U.heap = h0) (fun _ _ _ _ _ => True) (fun _ U o U' => ∃ v L, o = .returned v ∧ Q114_4 Z a0 kb vv G1 w_sf h0 n0 v U'.heap L ∧ FrameEnd U o U' L ({ frames := 0, cells := 0, slots := 0, locals := 0 } : Room).cells ({ frames := 0, cells := 0, slots := 0, locals := 0 } : Room).slots) := by
  refine MetFree.of_bodySF (plainFor_of_name pn3) hisR ?_
  intro p e s m args below meth c s₁ Bd hml0 hP hK
  obtain ⟨rfl, hZ, hh⟩ := hP
  have hx := Bd.exec
  have hby := Bd.bytes
  have hml : c.maxLocals = 2 := hml0
  have hown : s.vm.findClass "java/lang/StringUTF16" = some m.cls := findClass_of_methodNamed Bd.named
  have hnm := (name_of_methodNamed Bd.named Bd.method).1
  have hk := Bd.notSynchronized
  have X0 : Stand p l e ({ frames := 0, cells := 0, slots := 0, locals := 0 } : Room) s m #[(.ref a0), (.int 4)] below meth c s₁ [] 0 0 := Stand.of_body Bd
  have hh2 := hh
  have e0 : s₁.heap = h0 := by rw [← hh, Bd.state]; rfl
  have N0 := Fr.nil n0
  show Gl p e below (Pos 0 0 (Q114_4 Z a0 kb vv G1 w_sf h0 n0) s) s₁ _
  refine Gl.cast (ef114_4 m a0 (4 : Int32)) ?_
  refine gb (mkF m 1 #[vr a0, vi 4] [(.int 4)]) (fun _ k => XS.iloadN X0.here hx rfl (hb hby d11_0) rfl k) ?_
  refine gb (mkF m 2 #[vr a0, vi 4] [(.ref a0), (.int 4)]) (fun _ k => XS.aloadN X0.here hx rfl (hb hby d11_1) rfl rfl k) ?_
  obtain ⟨cl1, Ar1, qa1, Sa1, Na1, Ha1, Ga1⟩ := id pf0
  refine gb (mkF m 3 #[vr a0, vi 4] [(.int 4), (.int 4)]) (fun t k => X0.arraylength hx (by rw [e0]; exact Ar1.1) (State.isArrayOf_alike hZ.alike Ar1.2.1) (g := (mkF m 2 #[vr a0, vi 4] [(.ref a0), (.int 4)])) rfl rfl (hb hby d11_2) t (by rw [len_of Sa1 Na1]; exact k)) ?_
  refine gb (mkF m 4 #[vr a0, vi 4] [(.int ((4 : Int32) - (4 : Int32)))]) (fun _ k => XS.isub X0.here hx rfl (hb hby d11_3) rfl k) ?_
  refine gb (mkF m 6 #[vr a0, vi 4] [(.int 31), (.int ((4 : Int32) - (4 : Int32)))]) (fun _ k => XS.bipush X0.here hx rfl (hb hby d11_4) k) ?_
  refine gb (mkF m 7 #[vr a0, vi 4] [(.int ((((4 : Int32) - (4 : Int32)).toUInt32 >>> ((31 : Int32) &&& 31).toUInt32).toInt32))]) (fun _ k => XS.iushr X0.here hx rfl (hb hby d11_6) rfl k) ?_
  refine gb (mkF m 8 #[vr a0, vi 4] [(.int (((((4 : Int32) - (4 : Int32)).toUInt32 >>> ((31 : Int32) &&& 31).toUInt32).toInt32).toInt8.toInt32))]) (fun _ k => XS.i2b X0.here hx rfl (hb hby d11_7) rfl k) ?_
  exact Gl.outN X0 hx hk (t := .byte) Bd.returns (by simp) (hb hby d11_8) ⟨(congrArg (fun z => some (Value.int z)) (by decide : nar .byte (((((4 : Int32) - (4 : Int32)).toUInt32 >>> ((31 : Int32) &&& 31).toUInt32).toInt32).toInt8.toInt32) = (0 : Int32))), N0, e0⟩ (by decide) (by decide)
theorem ef114_8 (m : MethodId) (x0 : Addr) (x1 : Int32) : entryFrame m #[(.ref x0), (.int x1)] 2 = mkF m 0 #[.val (.ref x0), .val (.int x1)] [] := by first | (simp [entryFrame, mkF, argsToLocals, Value.category]; done) | rfl
def Q114_8 (Z : State) (a0 : Addr) (kb : ClassId) (vv : List Value) (G1 : Int32) (w_sf : Value) (h0 : Heap) (n0 : Nat) (v : Option Value) (h : Heap) (L : List Loc) : Prop := v = some (.int 1) ∧ Fr n0 L ∧ h = h0
theorem rm114_8 (l : Launch) (Z : State) (a0' : Array Value) (hw : ∀ d ∈ tables_1, d.before a0' Z = true) (ws : List Jvm.Cond) (a0 : Addr) (kb : ClassId) (vv : List Value) (G1 : Int32) (w_sf : Value) (h0 : Heap) (n0 : Nat) (O : Old Z n0 h0) (W : Wd Z G1 w_sf) (pf0 : Arv Z h0 a0 kb .byte (8 : Int32) vv (.int 0)) :
    MetFree l mq17 (head1 (Jvm.Cond.code mq17 jdk_52_method_15_code 2 (some .byte) :: ws) ({ frames := 0, cells := 0, slots := 0, locals := 0 } : Room)) (fun a U => a = #[(.ref a0), (.int 4)] ∧ Z.Warmed39 U.vm ∧ U.heap = h0) (fun _ _ _ _ _ => True) (fun _ U o U' => ∃ v L, o = .returned v ∧ Q114_8 Z a0 kb vv G1 w_sf h0 n0 v U'.heap L ∧ FrameEnd U o U' L ({ frames := 0, cells := 0, slots := 0, locals := 0 } : Room).cells ({ frames := 0, cells := 0, slots := 0, locals := 0 } : Room).slots) := by
  refine MetFree.of_bodySF (plainFor_of_name pn3) hisR ?_
  intro p e s m args below meth c s₁ Bd hml0 hP hK
  obtain ⟨rfl, hZ, hh⟩ := hP
  have hx := Bd.exec
  have hby := Bd.bytes
  have hml : c.maxLocals = 2 := hml0
  have hown : s.vm.findClass "java/lang/StringUTF16" = some m.cls := findClass_of_methodNamed Bd.named
  have hnm := (name_of_methodNamed Bd.named Bd.method).1
  have hk := Bd.notSynchronized
  have X0 : Stand p l e ({ frames := 0, cells := 0, slots := 0, locals := 0 } : Room) s m #[(.ref a0), (.int 4)] below meth c s₁ [] 0 0 := Stand.of_body Bd
  have hh2 := hh
  have e0 : s₁.heap = h0 := by rw [← hh, Bd.state]; rfl
  have N0 := Fr.nil n0
  show Gl p e below (Pos 0 0 (Q114_8 Z a0 kb vv G1 w_sf h0 n0) s) s₁ _
  refine Gl.cast (ef114_8 m a0 (4 : Int32)) ?_
  refine gb (mkF m 1 #[vr a0, vi 4] [(.int 4)]) (fun _ k => XS.iloadN X0.here hx rfl (hb hby d11_0) rfl k) ?_
  refine gb (mkF m 2 #[vr a0, vi 4] [(.ref a0), (.int 4)]) (fun _ k => XS.aloadN X0.here hx rfl (hb hby d11_1) rfl rfl k) ?_
  obtain ⟨cl1, Ar1, qa1, Sa1, Na1, Ha1, Ga1⟩ := id pf0
  refine gb (mkF m 3 #[vr a0, vi 4] [(.int 8), (.int 4)]) (fun t k => X0.arraylength hx (by rw [e0]; exact Ar1.1) (State.isArrayOf_alike hZ.alike Ar1.2.1) (g := (mkF m 2 #[vr a0, vi 4] [(.ref a0), (.int 4)])) rfl rfl (hb hby d11_2) t (by rw [len_of Sa1 Na1]; exact k)) ?_
  refine gb (mkF m 4 #[vr a0, vi 4] [(.int ((4 : Int32) - (8 : Int32)))]) (fun _ k => XS.isub X0.here hx rfl (hb hby d11_3) rfl k) ?_
  refine gb (mkF m 6 #[vr a0, vi 4] [(.int 31), (.int ((4 : Int32) - (8 : Int32)))]) (fun _ k => XS.bipush X0.here hx rfl (hb hby d11_4) k) ?_
  refine gb (mkF m 7 #[vr a0, vi 4] [(.int ((((4 : Int32) - (8 : Int32)).toUInt32 >>> ((31 : Int32) &&& 31).toUInt32).toInt32))]) (fun _ k => XS.iushr X0.here hx rfl (hb hby d11_6) rfl k) ?_
  refine gb (mkF m 8 #[vr a0, vi 4] [(.int (((((4 : Int32) - (8 : Int32)).toUInt32 >>> ((31 : Int32) &&& 31).toUInt32).toInt32).toInt8.toInt32))]) (fun _ k => XS.i2b X0.here hx rfl (hb hby d11_7) rfl k) ?_
  exact Gl.outN X0 hx hk (t := .byte) Bd.returns (by simp) (hb hby d11_8) ⟨(congrArg (fun z => some (Value.int z)) (by decide : nar .byte (((((4 : Int32) - (8 : Int32)).toUInt32 >>> ((31 : Int32) &&& 31).toUInt32).toInt32).toInt8.toInt32) = (1 : Int32))), N0, e0⟩ (by decide) (by decide)
theorem d3_0 : decode jdk_42_method_149_code 0 = .ok (.aload_n 0, 1) := by decide +kernel
theorem d3_1 : decode jdk_42_method_149_code 1 = .ok (.invokespecial 1, 3) := by decide +kernel
theorem d3_4 : decode jdk_42_method_149_code 4 = .ok (.iload_n 3, 1) := by decide +kernel
theorem d3_5 : decode jdk_42_method_149_code 5 = .ok (.ifCond .ne 22, 3) := by decide +kernel
theorem d3_8 : decode jdk_42_method_149_code 8 = .ok (.aload_n 0, 1) := by decide +kernel
theorem d3_9 : decode jdk_42_method_149_code 9 = .ok (.ldc 7, 2) := by decide +kernel
theorem d3_11 : decode jdk_42_method_149_code 11 = .ok (.getfield 9, 3) := by decide +kernel
theorem d3_14 : decode jdk_42_method_149_code 14 = .ok (.putfield 9, 3) := by decide +kernel
theorem d3_17 : decode jdk_42_method_149_code 17 = .ok (.aload_n 0, 1) := by decide +kernel
theorem d3_18 : decode jdk_42_method_149_code 18 = .ok (.ldc 7, 2) := by decide +kernel
theorem d3_20 : decode jdk_42_method_149_code 20 = .ok (.getfield 15, 3) := by decide +kernel
theorem d3_23 : decode jdk_42_method_149_code 23 = .ok (.putfield 15, 3) := by decide +kernel
theorem d3_26 : decode jdk_42_method_149_code 26 = .ok (.return_, 1) := by decide +kernel
theorem pd239 : parseMethodDescriptor "()V" = some ⟨[], none⟩ := by decide +kernel
theorem ef3k0 (m : MethodId) (x0 : Addr) (x1 : Addr) (x2 : Int32) (x3 : Int32) : entryFrame m #[(.ref x0), (.ref x1), (.int x2), (.int x3), .null] 6 = mkF m 0 #[.val (.ref x0), .val (.ref x1), .val (.int x2), .val (.int x3), .val .null, .unset] [] := by first | (simp [entryFrame, mkF, argsToLocals, Value.category]; done) | rfl
def Q3k0 (Z : State) (a0 : Addr) (a1 : Addr) (ka : ClassId) (G1 : Int32) (w_sf : Value) (h0 : Heap) (n0 : Nat) (v : Option Value) (h : Heap) (L : List Loc) : Prop := ∃ (b : Addr), ∃ (kb : ClassId), v = none ∧ Fr n0 L ∧ Keep h0 h [a0] ∧ Fld Z h a0 "java/lang/String" "value" "[B" (.ref b) ∧ Fld Z h a0 "java/lang/String" "coder" "B" (.int 0) ∧ Arv Z h b kb .byte (0 : Int32) [] (.int 0)
theorem rm3k0 (l : Launch) (Z : State) (a0' : Array Value) (hw : ∀ d ∈ tables_1, d.before a0' Z = true) (ws : List Jvm.Cond) (a0 : Addr) (a1 : Addr) (ka : ClassId) (G1 : Int32) (w_sf : Value) (h0 : Heap) (n0 : Nat) (O : Old Z n0 h0) (W : Wd Z G1 w_sf) (pf0 : Exa Z h0 a0 "java/lang/String") (pf1 : Fld Z h0 a0 "java/lang/String" "value" "[B" .null) (pf2 : Fld Z h0 a0 "java/lang/String" "coder" "B" (.int 0)) (gp_a0 : n0 ≤ a0) (pf4 : Arv Z h0 a1 ka .char (0 : Int32) [] (.int 0)) :
    MetFree l mq18 (head1 (Jvm.Cond.code mq18 jdk_42_method_149_code 6 none :: ws) ({ frames := 1, cells := 4, slots := 8, locals := 12 } : Room)) (fun a U => a = #[(.ref a0), (.ref a1), (.int 0), (.int 0), .null] ∧ Z.Warmed39 U.vm ∧ U.heap = h0 ∧ CHv Z EL0 U.vm h0 ∧ ∀ x ∈ ([a0] : List Addr), x < h0.size ∧ Safe Z EL0 U.vm h0 x) (fun _ _ _ _ _ => True) (fun _ U o U' => ∃ v L, o = .returned v ∧ Q3k0 Z a0 a1 ka G1 w_sf h0 n0 v U'.heap L ∧ CHr Z EL0 U.vm U.heap U'.vm U'.heap ∧ ReturnedEndW U o U' L ({ frames := 1, cells := 4, slots := 8, locals := 12 } : Room).cells ({ frames := 1, cells := 4, slots := 8, locals := 12 } : Room).slots) := by
  refine MetFree.of_bodySF (plainFor_of_name pn1) hisR ?_
  intro p e s m args below meth c s₁ Bd hml0 hP hK
  obtain ⟨rfl, hZ, hh, hCH, hSf⟩ := hP
  have hx := Bd.exec
  have hby := Bd.bytes
  have hml : c.maxLocals = 6 := hml0
  have hown : s.vm.findClass "java/lang/String" = some m.cls := findClass_of_methodNamed Bd.named
  have hnm := (name_of_methodNamed Bd.named Bd.method).1
  have hk := Bd.notSynchronized
  have X0 : Stand p l e ({ frames := 1, cells := 4, slots := 8, locals := 12 } : Room) (s.setVm s.vm) m #[(.ref a0), (.ref a1), (.int 0), (.int 0), .null] below meth c s₁ [] 0 0 := Stand.of_body Bd
  have hS : s.Since s.vm h0.size := State.WarmedH.since (State.WarmedH.refl s) _
  have e0 : s₁.heap = h0 := by rw [← hh, Bd.state]; rfl
  have N0 := Fr.nil n0
  show Gl p e below (PosH Z EL0 4 8 (Q3k0 Z a0 a1 ka G1 w_sf h0 n0) s) s₁ _
  refine Gl.cast (ef3k0 m a0 a1 (0 : Int32) (0 : Int32)) ?_
  refine gb (mkF m 1 #[vr a0, vr a1, vi 0, vi 0, .val .null, .unset] [(.ref a0)]) (fun _ k => XS.aloadN X0.here hx rfl (hb hby d3_0) rfl rfl k) ?_
  obtain ⟨T1, X1, e1, st1⟩ := initO X0 hx hZ hown (hW hw 16 rfl) (hW hw 17 rfl) (hW hw 18 rfl) e0 (g := (mkF m 1 #[vr a0, vr a1, vi 0, vi 0, .val .null, .unset] [(.ref a0)])) rfl (by rw [hml]; rfl) rfl (hb hby d3_1) (by decide) (W := 0) (Nat.le_of_eq rfl) (by decide)
  refine gb (mkF m 4 #[vr a0, vr a1, vi 0, vi 0, .val .null, .unset] []) st1 ?_
  refine gb (mkF m 5 #[vr a0, vr a1, vi 0, vi 0, .val .null, .unset] [(.int 0)]) (fun _ k => XS.iloadN X1.here hx rfl (hb hby d3_4) rfl k) ?_
  refine gb (mkF m 8 #[vr a0, vr a1, vi 0, vi 0, .val .null, .unset] []) (fun _ k => XS.ifNo X1.here hx rfl (hb hby d3_5) rfl ((if0 _ _).trans (teq (by decide : (0 : Int32) = (0 : Int32))).2) k) ?_
  refine gb (mkF m 9 #[vr a0, vr a1, vi 0, vi 0, .val .null, .unset] [(.ref a0)]) (fun _ k => XS.aloadN X1.here hx rfl (hb hby d3_8) rfl rfl k) ?_
  obtain ⟨c2, T2, h2, k2, bq2, kq2, X2, e2, E2, hS, hk2, hZ, hown, xE2, xC2, xV2, xA2, -, -, Sc2, -, nq2, st2⟩ := ldcCH X1 hx hZ hown (hW hw 19 rfl) (wS hw) e1 hS (Nat.le_refl h0.size) (hEL0 hw) (List.mem_of_getElem? (i := 0) rfl) (CHr.refl hCH).1 (vs := []) (z := (0 : Int32)) tx0 (by decide) (by decide) (g := (mkF m 9 #[vr a0, vr a1, vi 0, vi 0, .val .null, .unset] [(.ref a0)])) rfl (hb hby d3_9) (n := 0) (by decide) (by decide) (by decide) (by decide)
  refine gb (mkF m 11 #[vr a0, vr a1, vi 0, vi 0, .val .null, .unset] [(.ref c2), (.ref a0)]) st2 ?_
  have CH3 := CHr.trans (CHr.refl hCH) Sc2
  have Sf3_a0 := Sc2.safe (hSf a0 (List.mem_of_getElem? (i := 0) rfl)).1 (hSf a0 (List.mem_of_getElem? (i := 0) rfl)).2
  obtain ⟨T4, X4, e4, st4⟩ := getF X2 hx hZ hown (host := "") (Or.inl (hW hw 25 rfl)) Via.refl e2 xV2 (g := (mkF m 11 #[vr a0, vr a1, vi 0, vi 0, .val .null, .unset] [(.ref c2), (.ref a0)])) rfl rfl (hb hby d3_11)
  refine gb (mkF m 14 #[vr a0, vr a1, vi 0, vi 0, .val .null, .unset] [(.ref bq2), (.ref a0)]) st4 ?_
  have f5 := (Exa.ext E2 pf0)
  have f6 := (Fld.ext E2 pf1)
  obtain ⟨T7, h7, X7, e7, W7, st7⟩ := putF X4 hx hZ hown (host := "") (Or.inl (hW hw 25 rfl)) Via.refl e4 f6 f5 (Or.inr ⟨(hW hw 21 rfl), rfl, hnm⟩) (hW hw 7 rfl) (ty := (.array .byte)) (by decide) rfl rfl (g := (mkF m 14 #[vr a0, vr a1, vi 0, vi 0, .val .null, .unset] [(.ref bq2), (.ref a0)])) rfl rfl (hb hby d3_14)
  have N7 := Fr.snoc X7 N0 gp_a0
  have Fw7 := Fld.same W7 f6
  refine gb (mkF m 17 #[vr a0, vr a1, vi 0, vi 0, .val .null, .unset] []) st7 ?_
  have Sy8 := CHr.wr W7 Sf3_a0 CH3.1
  have CH8 := CHr.trans CH3 Sy8
  have Sf8_a0 := Sy8.safe (Nat.lt_of_lt_of_le (hSf a0 (List.mem_of_getElem? (i := 0) rfl)).1 Sc2.2.1) Sf3_a0
  refine gb (mkF m 18 #[vr a0, vr a1, vi 0, vi 0, .val .null, .unset] [(.ref a0)]) (fun _ k => XS.aloadN X7.here hx rfl (hb hby d3_17) rfl rfl k) ?_
  have sz10 := (Nat.le_trans hk2 (Nat.le_of_eq W7.size.symm))
  obtain ⟨c9, T9, h9, k9, bq9, kq9, X9, e9, E9, hS, hk9, hZ, hown, xE9, xC9, xV9, xA9, -, -, Sc9, -, nq9, st9⟩ := ldcCH X7 hx hZ hown (hW hw 19 rfl) (wS hw) e7 hS sz10 (hEL0 hw) (List.mem_of_getElem? (i := 0) rfl) CH8.1 (vs := []) (z := (0 : Int32)) tx0 (by decide) (by decide) (g := (mkF m 18 #[vr a0, vr a1, vi 0, vi 0, .val .null, .unset] [(.ref a0)])) rfl (hb hby d3_18) (n := 0) (by decide) (by decide) (by decide) (by decide)
  refine gb (mkF m 20 #[vr a0, vr a1, vi 0, vi 0, .val .null, .unset] [(.ref c9), (.ref a0)]) st9 ?_
  have CH11 := CHr.trans CH8 Sc9
  have Sf11_a0 := Sc9.safe (Nat.lt_of_lt_of_le (Nat.lt_of_lt_of_le (hSf a0 (List.mem_of_getElem? (i := 0) rfl)).1 Sc2.2.1) Sy8.2.1) Sf8_a0
  obtain ⟨T12, X12, e12, st12⟩ := getF X9 hx hZ hown (host := "") (Or.inl (hW hw 26 rfl)) Via.refl e9 xC9 (g := (mkF m 20 #[vr a0, vr a1, vi 0, vi 0, .val .null, .unset] [(.ref c9), (.ref a0)])) rfl rfl (hb hby d3_20)
  refine gb (mkF m 23 #[vr a0, vr a1, vi 0, vi 0, .val .null, .unset] [(.int 0), (.ref a0)]) st12 ?_
  have f13 := (Exa.ext E9 (Exa.wr W7 f5))
  have f14 := (Fld.ext E9 (Fld.other W7 (Fld.ext E2 pf2) (Or.inr (slot_ne (Or.inr (hW hw 22 rfl)) (Or.inr (hW hw 21 rfl)) (by decide) (t := .byte) (t' := (.array .byte)) (by decide) (by decide)))))
  obtain ⟨T15, h15, X15, e15, W15, st15⟩ := putFN X12 hx hZ hown (hW hw 26 rfl) Via.refl e12 f14 f13 (Or.inr ⟨(hW hw 22 rfl), rfl, hnm⟩) (hW hw 7 rfl) (ty := .byte) (v' := (.int ((0 : Int32).toInt8.toInt32))) (by decide) rfl (fits_nar_byte _) (g := (mkF m 23 #[vr a0, vr a1, vi 0, vi 0, .val .null, .unset] [(.int 0), (.ref a0)])) rfl rfl (hb hby d3_23)
  have N15 := Fr.snoc X15 N7 gp_a0
  have Fw15 := Fld.same W15 f14
  refine gb (mkF m 26 #[vr a0, vr a1, vi 0, vi 0, .val .null, .unset] []) st15 ?_
  have Sy16 := CHr.wr W15 Sf11_a0 CH11.1
  have CH16 := CHr.trans CH11 Sy16
  have Sf16_a0 := Sy16.safe (Nat.lt_of_lt_of_le (Nat.lt_of_lt_of_le (Nat.lt_of_lt_of_le (hSf a0 (List.mem_of_getElem? (i := 0) rfl)).1 Sc2.2.1) Sy8.2.1) Sc9.2.1) Sf11_a0
  have sz17 := (Nat.le_trans hk9 (Nat.le_of_eq W15.size.symm))
  have K18 := (((((Keep.refl h0 [a0]).ext E2).wr W7 (Or.inl (List.mem_of_getElem? (i := 0) rfl))).ext E9).wr W15 (Or.inl (List.mem_of_getElem? (i := 0) rfl)))
  have f19 := (Fld.other W15 (Fld.ext E9 Fw7) (Or.inr (slot_ne (Or.inr (hW hw 21 rfl)) (Or.inr (hW hw 22 rfl)) (by decide) (t := (.array .byte)) (t' := .byte) (by decide) (by decide))))
  have f20 := (Arv.other (Arv.ext (Arv.other xA2 W7 (Ne.symm (nq2 a0 Sf3_a0).2)) E9) W15 (Ne.symm (nq2 a0 Sf3_a0).2))
  have hC21 := CHr.trans CH16 (CHv.at X15 hZ (hEL0 hw) CH16.1)
  exact Gl.outVH X15 hS (by rw [e15]; exact sz17) hx hk Bd.returns (hb hby d3_26) (Eq.mpr (congrArg (fun hh => Q3k0 Z a0 a1 ka G1 w_sf h0 n0 _ hh _) e15) (show Q3k0 Z a0 a1 ka G1 w_sf h0 n0 _ h15 _ from ⟨bq2, kq2, rfl, N15, K18, f19, (castF (congrArg Value.int (by decide : ((0 : Int32).toInt8.toInt32) = (0 : Int32))) Fw15), f20⟩)) (by rw [hh, e15]; exact hC21) (by decide) (by decide)
theorem d2_0 : decode jdk_42_method_3_code 0 = .ok (.aload_n 0, 1) := by decide +kernel
theorem d2_1 : decode jdk_42_method_3_code 1 = .ok (.aload_n 1, 1) := by decide +kernel
theorem d2_2 : decode jdk_42_method_3_code 2 = .ok (.iconst 0, 1) := by decide +kernel
theorem d2_3 : decode jdk_42_method_3_code 3 = .ok (.aload_n 1, 1) := by decide +kernel
theorem d2_4 : decode jdk_42_method_3_code 4 = .ok (.arraylength, 1) := by decide +kernel
theorem d2_5 : decode jdk_42_method_3_code 5 = .ok (.aconst_null, 1) := by decide +kernel
theorem d2_6 : decode jdk_42_method_3_code 6 = .ok (.invokespecial 27, 3) := by decide +kernel
theorem d2_9 : decode jdk_42_method_3_code 9 = .ok (.return_, 1) := by decide +kernel
theorem pd248 : parseMethodDescriptor "([CIILjava/lang/Void;)V" = some ⟨[(.array .char), .int, .int, (.object "java/lang/Void")], none⟩ := by decide +kernel
theorem ef2k0 (m : MethodId) (x0 : Addr) (x1 : Addr) : entryFrame m #[(.ref x0), (.ref x1)] 2 = mkF m 0 #[.val (.ref x0), .val (.ref x1)] [] := by first | (simp [entryFrame, mkF, argsToLocals, Value.category]; done) | rfl
def Q2k0 (Z : State) (a0 : Addr) (a1 : Addr) (ka : ClassId) (G1 : Int32) (w_sf : Value) (h0 : Heap) (n0 : Nat) (v : Option Value) (h : Heap) (L : List Loc) : Prop := ∃ (b : Addr), ∃ (kb : ClassId), v = none ∧ Fr n0 L ∧ Keep h0 h [a0] ∧ Fld Z h a0 "java/lang/String" "value" "[B" (.ref b) ∧ Fld Z h a0 "java/lang/String" "coder" "B" (.int 0) ∧ Arv Z h b kb .byte (0 : Int32) [] (.int 0)
theorem rm2k0 (l : Launch) (Z : State) (a0' : Array Value) (hw : ∀ d ∈ tables_1, d.before a0' Z = true) (ws : List Jvm.Cond) (a0 : Addr) (a1 : Addr) (ka : ClassId) (G1 : Int32) (w_sf : Value) (h0 : Heap) (n0 : Nat) (O : Old Z n0 h0) (W : Wd Z G1 w_sf) (pf0 : Exa Z h0 a0 "java/lang/String") (pf1 : Fld Z h0 a0 "java/lang/String" "value" "[B" .null) (pf2 : Fld Z h0 a0 "java/lang/String" "coder" "B" (.int 0)) (gp_a0 : n0 ≤ a0) (pf4 : Arv Z h0 a1 ka .char (0 : Int32) [] (.int 0)) :
    MetFree l mq19 (head1 (Jvm.Cond.code mq19 jdk_42_method_3_code 2 none :: ws) ({ frames := 2, cells := 4, slots := 8, locals := 29 } : Room)) (fun a U => a = #[(.ref a0), (.ref a1)] ∧ Z.Warmed39 U.vm ∧ U.heap = h0 ∧ CHv Z EL0 U.vm h0 ∧ ∀ x ∈ ([a0] : List Addr), x < h0.size ∧ Safe Z EL0 U.vm h0 x) (fun _ _ _ _ _ => True) (fun _ U o U' => ∃ v L, o = .returned v ∧ Q2k0 Z a0 a1 ka G1 w_sf h0 n0 v U'.heap L ∧ CHr Z EL0 U.vm U.heap U'.vm U'.heap ∧ ReturnedEndW U o U' L ({ frames := 2, cells := 4, slots := 8, locals := 29 } : Room).cells ({ frames := 2, cells := 4, slots := 8, locals := 29 } : Room).slots) := by
  refine MetFree.of_bodySF (plainFor_of_name pn1) hisR ?_
  intro p e s m args below meth c s₁ Bd hml0 hP hK
  obtain ⟨rfl, hZ, hh, hCH, hSf⟩ := hP
  have hx := Bd.exec
  have hby := Bd.bytes
  have hml : c.maxLocals = 2 := hml0
  have hown : s.vm.findClass "java/lang/String" = some m.cls := findClass_of_methodNamed Bd.named
  have hnm := (name_of_methodNamed Bd.named Bd.method).1
  have hk := Bd.notSynchronized
  have X0 : Stand p l e ({ frames := 2, cells := 4, slots := 8, locals := 29 } : Room) (s.setVm s.vm) m #[(.ref a0), (.ref a1)] below meth c s₁ [] 0 0 := Stand.of_body Bd
  have hS : s.Since s.vm h0.size := State.WarmedH.since (State.WarmedH.refl s) _
  have e0 : s₁.heap = h0 := by rw [← hh, Bd.state]; rfl
  have N0 := Fr.nil n0
  show Gl p e below (PosH Z EL0 4 8 (Q2k0 Z a0 a1 ka G1 w_sf h0 n0) s) s₁ _
  refine Gl.cast (ef2k0 m a0 a1) ?_
  refine gb (mkF m 1 #[vr a0, vr a1] [(.ref a0)]) (fun _ k => XS.aloadN X0.here hx rfl (hb hby d2_0) rfl rfl k) ?_
  refine gb (mkF m 2 #[vr a0, vr a1] [(.ref a1), (.ref a0)]) (fun _ k => XS.aloadN X0.here hx rfl (hb hby d2_1) rfl rfl k) ?_
  refine gb (mkF m 3 #[vr a0, vr a1] [(.int 0), (.ref a1), (.ref a0)]) (fun _ k => XS.iconst X0.here hx rfl (hb hby d2_2) k) ?_
  refine gb (mkF m 4 #[vr a0, vr a1] [(.ref a1), (.int 0), (.ref a1), (.ref a0)]) (fun _ k => XS.aloadN X0.here hx rfl (hb hby d2_3) rfl rfl k) ?_
  obtain ⟨cl1, Ar1, qa1, Sa1, Na1, Ha1, Ga1⟩ := id pf4
  refine gb (mkF m 5 #[vr a0, vr a1] [(.int 0), (.int 0), (.ref a1), (.ref a0)]) (fun t k => X0.arraylength hx (by rw [e0]; exact Ar1.1) (State.isArrayOf_alike hZ.alike Ar1.2.1) (g := (mkF m 4 #[vr a0, vr a1] [(.ref a1), (.int 0), (.ref a1), (.ref a0)])) rfl rfl (hb hby d2_4) t (by rw [len_of Sa1 Na1]; exact k)) ?_
  refine gb (mkF m 6 #[vr a0, vr a1] [.null, (.int 0), (.int 0), (.ref a1), (.ref a0)]) (fun _ k => XS.aconstNull X0.here hx rfl (hb hby d2_5) k) ?_
  obtain ⟨_, _, ⟨T2, L2, k2, n2⟩, -, X2, hS2, hg2, ⟨Lc2, hQ2, l2, y2, z2, Sc2⟩, st2⟩ := X0.specialBackS hx (y := mq18) rfl hown (mvT hZ (hW hw 12 rfl)) (mvT hZ (hW hw 13 rfl)) (mvT hZ (hW hw 15 rfl)) (by decide) (backOfSX (W := 0) (rm3k0 l Z a0' hw [] a0 a1 ka G1 w_sf h0 n0 O W pf0 pf1 pf2 gp_a0 pf4) hZ (hW hw 15 rfl) (hW hw 8 rfl) (by decide) (by decide) (hEL0 hw) (CHr.refl hCH).1 (allS ⟨(hSf a0 (List.mem_of_getElem? (i := 0) rfl)).1, (hSf a0 (List.mem_of_getElem? (i := 0) rfl)).2⟩ all0)) (g := (mkF m 6 #[vr a0, vr a1] [.null, (.int 0), (.int 0), (.ref a1), (.ref a0)])) rfl (by rw [hml]; rfl) (Steps.refl _) (a := a0) (argsL := [(.ref a1), (.int 0), (.int 0), .null]) (rest := []) (lenOf pd248 rfl) rfl (Nat.le_of_eq rfl) (hb hby d2_6) (fun _ _ => ⟨rfl, e0, (by decide : 0 + 4 ≤ _), (by decide : 0 + 8 ≤ _)⟩)
  dsimp only [Pt.U, Pt.locs, Pt.cells, Pt.slots] at X2 l2 y2 z2 st2 hQ2 Sc2
  subst l2 y2 z2
  obtain ⟨X2, hS, hZ, hown⟩ := rebS hS (by rw [e0]; exact (Nat.le_refl h0.size)) X2 hS2 hg2 hZ hown
  obtain ⟨b_2, kb_2, rfl, N2q, Kc2, fc2_0, fc2_1, fc2_2⟩ := hQ2
  have N2 := Fr.app N0 N2q
  refine gb (mkF m 9 #[vr a0, vr a1] []) (fun _ k => st2.trans k) ?_
  have CH3 := CHr.trans (CHr.refl hCH) Sc2
  have Sf3_a0 := Sc2.safe (hSf a0 (List.mem_of_getElem? (i := 0) rfl)).1 (hSf a0 (List.mem_of_getElem? (i := 0) rfl)).2
  have K4 := ((Keep.refl h0 [a0]).trans Kc2 (allS (Or.inl (List.mem_of_getElem? (i := 0) rfl)) all0))
  have hC5 := CHr.trans CH3 (CHv.at X2 hZ (hEL0 hw) CH3.1)
  exact Gl.outVH X2 hS (Nat.le_refl _) hx hk Bd.returns (hb hby d2_9) ⟨b_2, kb_2, rfl, N2, K4, fc2_0, fc2_1, fc2_2⟩ (by rw [hh]; exact hC5) (by decide) (by decide)
theorem d3_27 : decode jdk_42_method_149_code 27 = .ok (.getstatic 38, 3) := by decide +kernel
theorem d3_30 : decode jdk_42_method_149_code 30 = .ok (.ifCond .eq 28, 3) := by decide +kernel
theorem d3_33 : decode jdk_42_method_149_code 33 = .ok (.aload_n 1, 1) := by decide +kernel
theorem d3_34 : decode jdk_42_method_149_code 34 = .ok (.iload_n 2, 1) := by decide +kernel
theorem d3_35 : decode jdk_42_method_149_code 35 = .ok (.iload_n 3, 1) := by decide +kernel
theorem d3_36 : decode jdk_42_method_149_code 36 = .ok (.invokestatic 177, 3) := by decide +kernel
theorem d3_39 : decode jdk_42_method_149_code 39 = .ok (.astore 5, 2) := by decide +kernel
theorem d3_41 : decode jdk_42_method_149_code 41 = .ok (.aload_n 0, 1) := by decide +kernel
theorem d3_42 : decode jdk_42_method_149_code 42 = .ok (.aload 5, 2) := by decide +kernel
theorem d3_44 : decode jdk_42_method_149_code 44 = .ok (.iload_n 3, 1) := by decide +kernel
theorem d3_45 : decode jdk_42_method_149_code 45 = .ok (.invokestatic 47, 3) := by decide +kernel
theorem d3_48 : decode jdk_42_method_149_code 48 = .ok (.putfield 15, 3) := by decide +kernel
theorem d3_51 : decode jdk_42_method_149_code 51 = .ok (.aload_n 0, 1) := by decide +kernel
theorem d3_52 : decode jdk_42_method_149_code 52 = .ok (.aload 5, 2) := by decide +kernel
theorem d3_54 : decode jdk_42_method_149_code 54 = .ok (.putfield 9, 3) := by decide +kernel
theorem d3_57 : decode jdk_42_method_149_code 57 = .ok (.return_, 1) := by decide +kernel
theorem pd265 : parseMethodDescriptor "([BI)B" = some ⟨[(.array .byte), .int], some .byte⟩ := by decide +kernel
theorem ef3k1 (m : MethodId) (x0 : Addr) (x1 : Addr) (x2 : Int32) (x3 : Int32) : entryFrame m #[(.ref x0), (.ref x1), (.int x2), (.int x3), .null] 6 = mkF m 0 #[.val (.ref x0), .val (.ref x1), .val (.int x2), .val (.int x3), .val .null, .unset] [] := by first | (simp [entryFrame, mkF, argsToLocals, Value.category]; done) | rfl
def Q3k1 (Z : State) (a0 : Addr) (a1 : Addr) (ka : ClassId) (x0 : Int32) (G1 : Int32) (w_sf : Value) (h0 : Heap) (n0 : Nat) (v : Option Value) (h : Heap) (L : List Loc) : Prop := ∃ (b : Addr), ∃ (kb : ClassId), v = none ∧ Fr n0 L ∧ Keep h0 h [a0] ∧ Fld Z h a0 "java/lang/String" "value" "[B" (.ref b) ∧ ((¬ ((255 : Int32) < x0) ∧ Fld Z h a0 "java/lang/String" "coder" "B" (.int 0) ∧ Arv Z h b kb .byte (1 : Int32) [(.int (bL x0))] (.int 0)) ∨ (((255 : Int32) < x0) ∧ Fld Z h a0 "java/lang/String" "coder" "B" (.int 1) ∧ Arv Z h b kb .byte (2 : Int32) [(.int (bA x0)), (.int (bB x0))] (.int 0)))
theorem rm3k1 (l : Launch) (Z : State) (a0' : Array Value) (hw : ∀ d ∈ tables_1, d.before a0' Z = true) (ws : List Jvm.Cond) (a0 : Addr) (a1 : Addr) (ka : ClassId) (x0 : Int32) (G1 : Int32) (w_sf : Value) (h0 : Heap) (n0 : Nat) (O : Old Z n0 h0) (W : Wd Z G1 w_sf) (pf0 : Exa Z h0 a0 "java/lang/String") (pf1 : Fld Z h0 a0 "java/lang/String" "value" "[B" .null) (pf2 : Fld Z h0 a0 "java/lang/String" "coder" "B" (.int 0)) (gp_a0 : n0 ≤ a0) (pf4 : Arv Z h0 a1 ka .char (1 : Int32) [(.int x0)] (.int 0)) (hc0 : nar .char x0 = x0) :
    MetFree l mq18 (head1 (Jvm.Cond.code mq18 jdk_42_method_149_code 6 none :: ws) ({ frames := 4, cells := 2, slots := 3, locals := 57 } : Room)) (fun a U => a = #[(.ref a0), (.ref a1), (.int 0), (.int 1), .null] ∧ Z.Warmed39 U.vm ∧ U.heap = h0) (fun _ _ _ _ _ => True) (fun _ U o U' => ∃ v L, o = .returned v ∧ Q3k1 Z a0 a1 ka x0 G1 w_sf h0 n0 v U'.heap L ∧ FrameEnd U o U' L ({ frames := 4, cells := 2, slots := 3, locals := 57 } : Room).cells ({ frames := 4, cells := 2, slots := 3, locals := 57 } : Room).slots) := by
  refine MetFree.of_bodySF (plainFor_of_name pn1) hisR ?_
  intro p e s m args below meth c s₁ Bd hml0 hP hK
  obtain ⟨rfl, hZ, hh⟩ := hP
  have hx := Bd.exec
  have hby := Bd.bytes
  have hml : c.maxLocals = 6 := hml0
  have hown : s.vm.findClass "java/lang/String" = some m.cls := findClass_of_methodNamed Bd.named
  have hnm := (name_of_methodNamed Bd.named Bd.method).1
  have hk := Bd.notSynchronized
  have X0 : Stand p l e ({ frames := 4, cells := 2, slots := 3, locals := 57 } : Room) s m #[(.ref a0), (.ref a1), (.int 0), (.int 1), .null] below meth c s₁ [] 0 0 := Stand.of_body Bd
  have hh2 := hh
  have e0 : s₁.heap = h0 := by rw [← hh, Bd.state]; rfl
  have N0 := Fr.nil n0
  show Gl p e below (Pos 2 3 (Q3k1 Z a0 a1 ka x0 G1 w_sf h0 n0) s) s₁ _
  refine Gl.cast (ef3k1 m a0 a1 (0 : Int32) (1 : Int32)) ?_
  refine gb (mkF m 1 #[vr a0, vr a1, vi 0, vi 1, .val .null, .unset] [(.ref a0)]) (fun _ k => XS.aloadN X0.here hx rfl (hb hby d3_0) rfl rfl k) ?_
  obtain ⟨T1, X1, e1, st1⟩ := initO X0 hx hZ hown (hW hw 16 rfl) (hW hw 17 rfl) (hW hw 18 rfl) e0 (g := (mkF m 1 #[vr a0, vr a1, vi 0, vi 1, .val .null, .unset] [(.ref a0)])) rfl (by rw [hml]; rfl) rfl (hb hby d3_1) (by decide) (W := 0) (Nat.le_of_eq rfl) (by decide)
  refine gb (mkF m 4 #[vr a0, vr a1, vi 0, vi 1, .val .null, .unset] []) st1 ?_
  refine gb (mkF m 5 #[vr a0, vr a1, vi 0, vi 1, .val .null, .unset] [(.int 1)]) (fun _ k => XS.iloadN X1.here hx rfl (hb hby d3_4) rfl k) ?_
  refine gb (mkF m 27 #[vr a0, vr a1, vi 0, vi 1, .val .null, .unset] []) (fun _ k => XS.ifYes X1.here hx rfl (pc0 := 5) (pc' := 27) rfl (hb hby d3_5) rfl ((if0 _ _).trans (feq (by decide : ¬ ((1 : Int32) = (0 : Int32)))).2) (by decide) (by decide) k) ?_
  obtain ⟨T2, X2, e2, st2⟩ := getS2 X1 hx hZ hown (host := "") (Or.inl (hW hw 41 rfl)) Via.refl e1 (Sta.ext O.2 W.1) (g := (mkF m 27 #[vr a0, vr a1, vi 0, vi 1, .val .null, .unset] [])) rfl (hb hby d3_27)
  refine gb (mkF m 30 #[vr a0, vr a1, vi 0, vi 1, .val .null, .unset] [(.int G1)]) st2 ?_
  refine gb (mkF m 33 #[vr a0, vr a1, vi 0, vi 1, .val .null, .unset] []) (fun _ k => XS.ifNo X2.here hx rfl (hb hby d3_30) rfl ((if0 _ _).trans (feq W.2.1).1) k) ?_
  refine gb (mkF m 34 #[vr a0, vr a1, vi 0, vi 1, .val .null, .unset] [(.ref a1)]) (fun _ k => XS.aloadN X2.here hx rfl (hb hby d3_33) rfl rfl k) ?_
  refine gb (mkF m 35 #[vr a0, vr a1, vi 0, vi 1, .val .null, .unset] [(.int 0), (.ref a1)]) (fun _ k => XS.iloadN X2.here hx rfl (hb hby d3_34) rfl k) ?_
  refine gb (mkF m 36 #[vr a0, vr a1, vi 0, vi 1, .val .null, .unset] [(.int 1), (.int 0), (.ref a1)]) (fun _ k => XS.iloadN X2.here hx rfl (hb hby d3_35) rfl k) ?_
  obtain ⟨_, _, ⟨T3, L3, k3, n3⟩, -, X3, ⟨Lc3, hQ3, l3, y3, z3⟩, st3⟩ := callS X2 hx (y := mq16) hown (mvT hZ (hW hw 45 rfl)) (mvT hZ (hW hw 46 rfl)) (mvT hZ (hW hw 47 rfl)) (mvT hZ (hW hw 48 rfl)) (by decide) (backOf (W := 0) (rm91 l Z a0' hw [] a1 ka x0 G1 w_sf h0 n0 O W pf4 hc0) hZ (hW hw 48 rfl) (hW hw 47 rfl) (by decide) (by decide)) (g := (mkF m 36 #[vr a0, vr a1, vi 0, vi 1, .val .null, .unset] [(.int 1), (.int 0), (.ref a1)])) rfl (by rw [hml]; rfl) (argsL := [(.ref a1), (.int 0), (.int 1)]) (rest := []) (lenOf pd217 rfl) rfl (Nat.le_of_eq rfl) (hb hby d3_36) (fun _ _ => ⟨rfl, e2, (by decide : 0 + 2 ≤ _), (by decide : 0 + 3 ≤ _)⟩)
  dsimp only [Pt.U, Pt.locs, Pt.cells, Pt.slots] at X3 l3 y3 z3 st3 hQ3
  subst l3 y3 z3
  obtain ⟨b_3, kb_3, rfl, N3q, Kc3, fc3_0, fc3_1⟩ := hQ3
  have N3 := Fr.app N0 N3q
  have nb4 : a0 ≠ b_3 := Nat.ne_of_lt (Nat.lt_of_lt_of_le pf0.lt fc3_0)
  have nb5 : a1 ≠ b_3 := Nat.ne_of_lt (Nat.lt_of_lt_of_le pf4.lt fc3_0)
  refine gb (mkF m 39 #[vr a0, vr a1, vi 0, vi 1, .val .null, .unset] [(.ref b_3)]) st3 ?_
  rcases fc3_1 with ⟨hN, hV⟩ | ⟨hN, hV⟩
  · refine gb (mkF m 41 #[vr a0, vr a1, vi 0, vi 1, .val .null, vr b_3] []) (fun _ k => XS.astore X3.here hx rfl (hb hby d3_39) rfl rfl (l' := #[vr a0, vr a1, vi 0, vi 1, .val .null, vr b_3]) rfl k) ?_
    refine gb (mkF m 42 #[vr a0, vr a1, vi 0, vi 1, .val .null, vr b_3] [(.ref a0)]) (fun _ k => XS.aloadN X3.here hx rfl (hb hby d3_41) rfl rfl k) ?_
    refine gb (mkF m 44 #[vr a0, vr a1, vi 0, vi 1, .val .null, vr b_3] [(.ref b_3), (.ref a0)]) (fun _ k => XS.aload X3.here hx rfl (hb hby d3_42) rfl rfl k) ?_
    refine gb (mkF m 45 #[vr a0, vr a1, vi 0, vi 1, .val .null, vr b_3] [(.int 1), (.ref b_3), (.ref a0)]) (fun _ k => XS.iloadN X3.here hx rfl (hb hby d3_44) rfl k) ?_
    have O7 := (O.keep Kc3 all0)
    obtain ⟨_, _, ⟨T6, L6, k6, n6⟩, -, X6, ⟨Lc6, hQ6, l6, y6, z6⟩, st6⟩ := callS X3 hx (y := mq17) hown (mvT hZ (hW hw 52 rfl)) (mvT hZ (hW hw 53 rfl)) (mvT hZ (hW hw 47 rfl)) (mvT hZ (hW hw 54 rfl)) (by decide) (backOf (W := 1) (rm111_1 l Z a0' hw [] b_3 kb_3 [(.int (bL x0))] G1 w_sf T3.heap n0 O7 W hV) hZ (hW hw 54 rfl) (hW hw 47 rfl) (by decide) (by decide)) (g := (mkF m 45 #[vr a0, vr a1, vi 0, vi 1, .val .null, vr b_3] [(.int 1), (.ref b_3), (.ref a0)])) rfl (by rw [hml]; rfl) (argsL := [(.ref b_3), (.int 1)]) (rest := [(.ref a0)]) (lenOf pd265 rfl) rfl (Nat.le_of_eq rfl) (hb hby d3_45) (fun _ _ => ⟨rfl, rfl, (by decide : 2 + 0 ≤ _), (by decide : 3 + 0 ≤ _)⟩)
    dsimp only [Pt.U, Pt.locs, Pt.cells, Pt.slots] at X6 l6 y6 z6 st6 hQ6
    subst l6 y6 z6
    obtain ⟨rfl, N6q, e6⟩ := hQ6
    have N6 := Fr.app N3 N6q
    refine gb (mkF m 48 #[vr a0, vr a1, vi 0, vi 1, .val .null, vr b_3] [(.int 0), (.ref a0)]) st6 ?_
    have f8 := (Exa.keep pf0 Kc3)
    have f9 := (Fld.keep pf2 Kc3 nin0)
    obtain ⟨T10, h10, X10, e10, W10, st10⟩ := putFN X6 hx hZ hown (hW hw 26 rfl) Via.refl e6 f9 f8 (Or.inr ⟨(hW hw 22 rfl), rfl, hnm⟩) (hW hw 7 rfl) (ty := .byte) (v' := (.int ((0 : Int32).toInt8.toInt32))) (by decide) rfl (fits_nar_byte _) (g := (mkF m 48 #[vr a0, vr a1, vi 0, vi 1, .val .null, vr b_3] [(.int 0), (.ref a0)])) rfl rfl (hb hby d3_48)
    have N10 := Fr.snoc X10 N6 gp_a0
    have Fw10 := Fld.same W10 f9
    refine gb (mkF m 51 #[vr a0, vr a1, vi 0, vi 1, .val .null, vr b_3] []) st10 ?_
    refine gb (mkF m 52 #[vr a0, vr a1, vi 0, vi 1, .val .null, vr b_3] [(.ref a0)]) (fun _ k => XS.aloadN X10.here hx rfl (hb hby d3_51) rfl rfl k) ?_
    refine gb (mkF m 54 #[vr a0, vr a1, vi 0, vi 1, .val .null, vr b_3] [(.ref b_3), (.ref a0)]) (fun _ k => XS.aload X10.here hx rfl (hb hby d3_52) rfl rfl k) ?_
    have f11 := (Exa.wr W10 f8)
    have f12 := (Fld.other W10 (Fld.keep pf1 Kc3 nin0) (Or.inr (slot_ne (Or.inr (hW hw 21 rfl)) (Or.inr (hW hw 22 rfl)) (by decide) (t := (.array .byte)) (t' := .byte) (by decide) (by decide))))
    obtain ⟨T13, h13, X13, e13, W13, st13⟩ := putF X10 hx hZ hown (host := "") (Or.inl (hW hw 25 rfl)) Via.refl e10 f12 f11 (Or.inr ⟨(hW hw 21 rfl), rfl, hnm⟩) (hW hw 7 rfl) (ty := (.array .byte)) (by decide) rfl rfl (g := (mkF m 54 #[vr a0, vr a1, vi 0, vi 1, .val .null, vr b_3] [(.ref b_3), (.ref a0)])) rfl rfl (hb hby d3_54)
    have N13 := Fr.snoc X13 N10 gp_a0
    have Fw13 := Fld.same W13 f12
    refine gb (mkF m 57 #[vr a0, vr a1, vi 0, vi 1, .val .null, vr b_3] []) st13 ?_
    have K14 := ((((Keep.refl h0 [a0]).trans Kc3 all0).wr W10 (Or.inl (List.mem_of_getElem? (i := 0) rfl))).wr W13 (Or.inl (List.mem_of_getElem? (i := 0) rfl)))
    have f15 := (Arv.other (Arv.other hV W10 (Ne.symm nb4)) W13 (Ne.symm nb4))
    have f16 := (Fld.other W13 Fw10 (Or.inr (slot_ne (Or.inr (hW hw 22 rfl)) (Or.inr (hW hw 21 rfl)) (by decide) (t := .byte) (t' := (.array .byte)) (by decide) (by decide))))
    exact Gl.outV X13 hx hk Bd.returns (hb hby d3_57) (Eq.mpr (congrArg (fun hh => Q3k1 Z a0 a1 ka x0 G1 w_sf h0 n0 _ hh _) e13) (show Q3k1 Z a0 a1 ka x0 G1 w_sf h0 n0 _ h13 _ from ⟨b_3, kb_3, rfl, N13, K14, Fw13, (Or.inl ⟨hN, (castF (congrArg Value.int (by decide : ((0 : Int32).toInt8.toInt32) = (0 : Int32))) f16), f15⟩)⟩)) (by decide) (by decide)
  · refine gb (mkF m 41 #[vr a0, vr a1, vi 0, vi 1, .val .null, vr b_3] []) (fun _ k => XS.astore X3.here hx rfl (hb hby d3_39) rfl rfl (l' := #[vr a0, vr a1, vi 0, vi 1, .val .null, vr b_3]) rfl k) ?_
    refine gb (mkF m 42 #[vr a0, vr a1, vi 0, vi 1, .val .null, vr b_3] [(.ref a0)]) (fun _ k => XS.aloadN X3.here hx rfl (hb hby d3_41) rfl rfl k) ?_
    refine gb (mkF m 44 #[vr a0, vr a1, vi 0, vi 1, .val .null, vr b_3] [(.ref b_3), (.ref a0)]) (fun _ k => XS.aload X3.here hx rfl (hb hby d3_42) rfl rfl k) ?_
    refine gb (mkF m 45 #[vr a0, vr a1, vi 0, vi 1, .val .null, vr b_3] [(.int 1), (.ref b_3), (.ref a0)]) (fun _ k => XS.iloadN X3.here hx rfl (hb hby d3_44) rfl k) ?_
    have O18 := (O.keep Kc3 all0)
    obtain ⟨_, _, ⟨T17, L17, k17, n17⟩, -, X17, ⟨Lc17, hQ17, l17, y17, z17⟩, st17⟩ := callS X3 hx (y := mq17) hown (mvT hZ (hW hw 52 rfl)) (mvT hZ (hW hw 53 rfl)) (mvT hZ (hW hw 47 rfl)) (mvT hZ (hW hw 54 rfl)) (by decide) (backOf (W := 1) (rm111_2 l Z a0' hw [] b_3 kb_3 [(.int (bA x0)), (.int (bB x0))] G1 w_sf T3.heap n0 O18 W hV) hZ (hW hw 54 rfl) (hW hw 47 rfl) (by decide) (by decide)) (g := (mkF m 45 #[vr a0, vr a1, vi 0, vi 1, .val .null, vr b_3] [(.int 1), (.ref b_3), (.ref a0)])) rfl (by rw [hml]; rfl) (argsL := [(.ref b_3), (.int 1)]) (rest := [(.ref a0)]) (lenOf pd265 rfl) rfl (Nat.le_of_eq rfl) (hb hby d3_45) (fun _ _ => ⟨rfl, rfl, (by decide : 2 + 0 ≤ _), (by decide : 3 + 0 ≤ _)⟩)
    dsimp only [Pt.U, Pt.locs, Pt.cells, Pt.slots] at X17 l17 y17 z17 st17 hQ17
    subst l17 y17 z17
    obtain ⟨rfl, N17q, e17⟩ := hQ17
    have N17 := Fr.app N3 N17q
    refine gb (mkF m 48 #[vr a0, vr a1, vi 0, vi 1, .val .null, vr b_3] [(.int 1), (.ref a0)]) st17 ?_
    have f19 := (Exa.keep pf0 Kc3)
    have f20 := (Fld.keep pf2 Kc3 nin0)
    obtain ⟨T21, h21, X21, e21, W21, st21⟩ := putFN X17 hx hZ hown (hW hw 26 rfl) Via.refl e17 f20 f19 (Or.inr ⟨(hW hw 22 rfl), rfl, hnm⟩) (hW hw 7 rfl) (ty := .byte) (v' := (.int ((1 : Int32).toInt8.toInt32))) (by decide) rfl (fits_nar_byte _) (g := (mkF m 48 #[vr a0, vr a1, vi 0, vi 1, .val .null, vr b_3] [(.int 1), (.ref a0)])) rfl rfl (hb hby d3_48)
    have N21 := Fr.snoc X21 N17 gp_a0
    have Fw21 := Fld.same W21 f20
    refine gb (mkF m 51 #[vr a0, vr a1, vi 0, vi 1, .val .null, vr b_3] []) st21 ?_
    refine gb (mkF m 52 #[vr a0, vr a1, vi 0, vi 1, .val .null, vr b_3] [(.ref a0)]) (fun _ k => XS.aloadN X21.here hx rfl (hb hby d3_51) rfl rfl k) ?_
    refine gb (mkF m 54 #[vr a0, vr a1, vi 0, vi 1, .val .null, vr b_3] [(.ref b_3), (.ref a0)]) (fun _ k => XS.aload X21.here hx rfl (hb hby d3_52) rfl rfl k) ?_
    have f22 := (Exa.wr W21 f19)
    have f23 := (Fld.other W21 (Fld.keep pf1 Kc3 nin0) (Or.inr (slot_ne (Or.inr (hW hw 21 rfl)) (Or.inr (hW hw 22 rfl)) (by decide) (t := (.array .byte)) (t' := .byte) (by decide) (by decide))))
    obtain ⟨T24, h24, X24, e24, W24, st24⟩ := putF X21 hx hZ hown (host := "") (Or.inl (hW hw 25 rfl)) Via.refl e21 f23 f22 (Or.inr ⟨(hW hw 21 rfl), rfl, hnm⟩) (hW hw 7 rfl) (ty := (.array .byte)) (by decide) rfl rfl (g := (mkF m 54 #[vr a0, vr a1, vi 0, vi 1, .val .null, vr b_3] [(.ref b_3), (.ref a0)])) rfl rfl (hb hby d3_54)
    have N24 := Fr.snoc X24 N21 gp_a0
    have Fw24 := Fld.same W24 f23
    refine gb (mkF m 57 #[vr a0, vr a1, vi 0, vi 1, .val .null, vr b_3] []) st24 ?_
    have K25 := ((((Keep.refl h0 [a0]).trans Kc3 all0).wr W21 (Or.inl (List.mem_of_getElem? (i := 0) rfl))).wr W24 (Or.inl (List.mem_of_getElem? (i := 0) rfl)))
    have f26 := (Arv.other (Arv.other hV W21 (Ne.symm nb4)) W24 (Ne.symm nb4))
    have f27 := (Fld.other W24 Fw21 (Or.inr (slot_ne (Or.inr (hW hw 22 rfl)) (Or.inr (hW hw 21 rfl)) (by decide) (t := .byte) (t' := (.array .byte)) (by decide) (by decide))))
    exact Gl.outV X24 hx hk Bd.returns (hb hby d3_57) (Eq.mpr (congrArg (fun hh => Q3k1 Z a0 a1 ka x0 G1 w_sf h0 n0 _ hh _) e24) (show Q3k1 Z a0 a1 ka x0 G1 w_sf h0 n0 _ h24 _ from ⟨b_3, kb_3, rfl, N24, K25, Fw24, (Or.inr ⟨hN, (castF (congrArg Value.int (by decide : ((1 : Int32).toInt8.toInt32) = (1 : Int32))) f27), f26⟩)⟩)) (by decide) (by decide)
theorem ef2k1 (m : MethodId) (x0 : Addr) (x1 : Addr) : entryFrame m #[(.ref x0), (.ref x1)] 2 = mkF m 0 #[.val (.ref x0), .val (.ref x1)] [] := by first | (simp [entryFrame, mkF, argsToLocals, Value.category]; done) | rfl
def Q2k1 (Z : State) (a0 : Addr) (a1 : Addr) (ka : ClassId) (x0 : Int32) (G1 : Int32) (w_sf : Value) (h0 : Heap) (n0 : Nat) (v : Option Value) (h : Heap) (L : List Loc) : Prop := ∃ (b : Addr), ∃ (kb : ClassId), v = none ∧ Fr n0 L ∧ Keep h0 h [a0] ∧ Fld Z h a0 "java/lang/String" "value" "[B" (.ref b) ∧ ((¬ ((255 : Int32) < x0) ∧ Fld Z h a0 "java/lang/String" "coder" "B" (.int 0) ∧ Arv Z h b kb .byte (1 : Int32) [(.int (bL x0))] (.int 0)) ∨ (((255 : Int32) < x0) ∧ Fld Z h a0 "java/lang/String" "coder" "B" (.int 1) ∧ Arv Z h b kb .byte (2 : Int32) [(.int (bA x0)), (.int (bB x0))] (.int 0)))
theorem rm2k1 (l : Launch) (Z : State) (a0' : Array Value) (hw : ∀ d ∈ tables_1, d.before a0' Z = true) (ws : List Jvm.Cond) (a0 : Addr) (a1 : Addr) (ka : ClassId) (x0 : Int32) (G1 : Int32) (w_sf : Value) (h0 : Heap) (n0 : Nat) (O : Old Z n0 h0) (W : Wd Z G1 w_sf) (pf0 : Exa Z h0 a0 "java/lang/String") (pf1 : Fld Z h0 a0 "java/lang/String" "value" "[B" .null) (pf2 : Fld Z h0 a0 "java/lang/String" "coder" "B" (.int 0)) (gp_a0 : n0 ≤ a0) (pf4 : Arv Z h0 a1 ka .char (1 : Int32) [(.int x0)] (.int 0)) (hc0 : nar .char x0 = x0) :
    MetFree l mq19 (head1 (Jvm.Cond.code mq19 jdk_42_method_3_code 2 none :: ws) ({ frames := 5, cells := 2, slots := 3, locals := 74 } : Room)) (fun a U => a = #[(.ref a0), (.ref a1)] ∧ Z.Warmed39 U.vm ∧ U.heap = h0) (fun _ _ _ _ _ => True) (fun _ U o U' => ∃ v L, o = .returned v ∧ Q2k1 Z a0 a1 ka x0 G1 w_sf h0 n0 v U'.heap L ∧ FrameEnd U o U' L ({ frames := 5, cells := 2, slots := 3, locals := 74 } : Room).cells ({ frames := 5, cells := 2, slots := 3, locals := 74 } : Room).slots) := by
  refine MetFree.of_bodySF (plainFor_of_name pn1) hisR ?_
  intro p e s m args below meth c s₁ Bd hml0 hP hK
  obtain ⟨rfl, hZ, hh⟩ := hP
  have hx := Bd.exec
  have hby := Bd.bytes
  have hml : c.maxLocals = 2 := hml0
  have hown : s.vm.findClass "java/lang/String" = some m.cls := findClass_of_methodNamed Bd.named
  have hnm := (name_of_methodNamed Bd.named Bd.method).1
  have hk := Bd.notSynchronized
  have X0 : Stand p l e ({ frames := 5, cells := 2, slots := 3, locals := 74 } : Room) s m #[(.ref a0), (.ref a1)] below meth c s₁ [] 0 0 := Stand.of_body Bd
  have hh2 := hh
  have e0 : s₁.heap = h0 := by rw [← hh, Bd.state]; rfl
  have N0 := Fr.nil n0
  show Gl p e below (Pos 2 3 (Q2k1 Z a0 a1 ka x0 G1 w_sf h0 n0) s) s₁ _
  refine Gl.cast (ef2k1 m a0 a1) ?_
  refine gb (mkF m 1 #[vr a0, vr a1] [(.ref a0)]) (fun _ k => XS.aloadN X0.here hx rfl (hb hby d2_0) rfl rfl k) ?_
  refine gb (mkF m 2 #[vr a0, vr a1] [(.ref a1), (.ref a0)]) (fun _ k => XS.aloadN X0.here hx rfl (hb hby d2_1) rfl rfl k) ?_
  refine gb (mkF m 3 #[vr a0, vr a1] [(.int 0), (.ref a1), (.ref a0)]) (fun _ k => XS.iconst X0.here hx rfl (hb hby d2_2) k) ?_
  refine gb (mkF m 4 #[vr a0, vr a1] [(.ref a1), (.int 0), (.ref a1), (.ref a0)]) (fun _ k => XS.aloadN X0.here hx rfl (hb hby d2_3) rfl rfl k) ?_
  obtain ⟨cl1, Ar1, qa1, Sa1, Na1, Ha1, Ga1⟩ := id pf4
  refine gb (mkF m 5 #[vr a0, vr a1] [(.int 1), (.int 0), (.ref a1), (.ref a0)]) (fun t k => X0.arraylength hx (by rw [e0]; exact Ar1.1) (State.isArrayOf_alike hZ.alike Ar1.2.1) (g := (mkF m 4 #[vr a0, vr a1] [(.ref a1), (.int 0), (.ref a1), (.ref a0)])) rfl rfl (hb hby d2_4) t (by rw [len_of Sa1 Na1]; exact k)) ?_
  refine gb (mkF m 6 #[vr a0, vr a1] [.null, (.int 1), (.int 0), (.ref a1), (.ref a0)]) (fun _ k => XS.aconstNull X0.here hx rfl (hb hby d2_5) k) ?_
  obtain ⟨_, _, ⟨T2, L2, k2, n2⟩, -, X2, ⟨Lc2, hQ2, l2, y2, z2⟩, st2⟩ := X0.specialBack hx (y := mq18) rfl hown (mvT hZ (hW hw 12 rfl)) (mvT hZ (hW hw 13 rfl)) (mvT hZ (hW hw 15 rfl)) (by decide) (backOf (W := 0) (rm3k1 l Z a0' hw [] a0 a1 ka x0 G1 w_sf h0 n0 O W pf0 pf1 pf2 gp_a0 pf4 hc0) hZ (hW hw 15 rfl) (hW hw 8 rfl) (by decide) (by decide)) (g := (mkF m 6 #[vr a0, vr a1] [.null, (.int 1), (.int 0), (.ref a1), (.ref a0)])) rfl (by rw [hml]; rfl) (Steps.refl _) (a := a0) (argsL := [(.ref a1), (.int 0), (.int 1), .null]) (rest := []) (lenOf pd248 rfl) rfl (Nat.le_of_eq rfl) (hb hby d2_6) (fun _ _ => ⟨rfl, e0, (by decide : 0 + 2 ≤ _), (by decide : 0 + 3 ≤ _)⟩)
  dsimp only [Pt.U, Pt.locs, Pt.cells, Pt.slots] at X2 l2 y2 z2 st2 hQ2
  subst l2 y2 z2
  obtain ⟨b_2, kb_2, rfl, N2q, Kc2, fc2_0, fc2_1⟩ := hQ2
  have N2 := Fr.app N0 N2q
  refine gb (mkF m 9 #[vr a0, vr a1] []) (fun _ k => st2.trans k) ?_
  have K3 := ((Keep.refl h0 [a0]).trans Kc2 (allS (Or.inl (List.mem_of_getElem? (i := 0) rfl)) all0))
  exact Gl.outV X2 hx hk Bd.returns (hb hby d2_9) ⟨b_2, kb_2, rfl, N2, K3, fc2_0, fc2_1⟩ (by decide) (by decide)
theorem ef3k2 (m : MethodId) (x0 : Addr) (x1 : Addr) (x2 : Int32) (x3 : Int32) : entryFrame m #[(.ref x0), (.ref x1), (.int x2), (.int x3), .null] 6 = mkF m 0 #[.val (.ref x0), .val (.ref x1), .val (.int x2), .val (.int x3), .val .null, .unset] [] := by first | (simp [entryFrame, mkF, argsToLocals, Value.category]; done) | rfl
def Q3k2 (Z : State) (a0 : Addr) (a1 : Addr) (ka : ClassId) (x0 : Int32) (x1 : Int32) (G1 : Int32) (w_sf : Value) (h0 : Heap) (n0 : Nat) (v : Option Value) (h : Heap) (L : List Loc) : Prop := ∃ (b : Addr), ∃ (kb : ClassId), v = none ∧ Fr n0 L ∧ Keep h0 h [a0] ∧ Fld Z h a0 "java/lang/String" "value" "[B" (.ref b) ∧ ((¬ ((255 : Int32) < x0 ∨ (255 : Int32) < x1) ∧ Fld Z h a0 "java/lang/String" "coder" "B" (.int 0) ∧ Arv Z h b kb .byte (2 : Int32) [(.int (bL x0)), (.int (bL x1))] (.int 0)) ∨ (((255 : Int32) < x0 ∨ (255 : Int32) < x1) ∧ Fld Z h a0 "java/lang/String" "coder" "B" (.int 1) ∧ Arv Z h b kb .byte (4 : Int32) [(.int (bA x0)), (.int (bB x0)), (.int (bA x1)), (.int (bB x1))] (.int 0)))
theorem rm3k2 (l : Launch) (Z : State) (a0' : Array Value) (hw : ∀ d ∈ tables_1, d.before a0' Z = true) (ws : List Jvm.Cond) (a0 : Addr) (a1 : Addr) (ka : ClassId) (x0 : Int32) (x1 : Int32) (G1 : Int32) (w_sf : Value) (h0 : Heap) (n0 : Nat) (O : Old Z n0 h0) (W : Wd Z G1 w_sf) (pf0 : Exa Z h0 a0 "java/lang/String") (pf1 : Fld Z h0 a0 "java/lang/String" "value" "[B" .null) (pf2 : Fld Z h0 a0 "java/lang/String" "coder" "B" (.int 0)) (gp_a0 : n0 ≤ a0) (pf4 : Arv Z h0 a1 ka .char (2 : Int32) [(.int x0), (.int x1)] (.int 0)) (hc0 : nar .char x0 = x0) (hc1 : nar .char x1 = x1) :
    MetFree l mq18 (head1 (Jvm.Cond.code mq18 jdk_42_method_149_code 6 none :: ws) ({ frames := 4, cells := 2, slots := 6, locals := 57 } : Room)) (fun a U => a = #[(.ref a0), (.ref a1), (.int 0), (.int 2), .null] ∧ Z.Warmed39 U.vm ∧ U.heap = h0) (fun _ _ _ _ _ => True) (fun _ U o U' => ∃ v L, o = .returned v ∧ Q3k2 Z a0 a1 ka x0 x1 G1 w_sf h0 n0 v U'.heap L ∧ FrameEnd U o U' L ({ frames := 4, cells := 2, slots := 6, locals := 57 } : Room).cells ({ frames := 4, cells := 2, slots := 6, locals := 57 } : Room).slots) := by
  refine MetFree.of_bodySF (plainFor_of_name pn1) hisR ?_
  intro p e s m args below meth c s₁ Bd hml0 hP hK
  obtain ⟨rfl, hZ, hh⟩ := hP
  have hx := Bd.exec
  have hby := Bd.bytes
  have hml : c.maxLocals = 6 := hml0
  have hown : s.vm.findClass "java/lang/String" = some m.cls := findClass_of_methodNamed Bd.named
  have hnm := (name_of_methodNamed Bd.named Bd.method).1
  have hk := Bd.notSynchronized
  have X0 : Stand p l e ({ frames := 4, cells := 2, slots := 6, locals := 57 } : Room) s m #[(.ref a0), (.ref a1), (.int 0), (.int 2), .null] below meth c s₁ [] 0 0 := Stand.of_body Bd
  have hh2 := hh
  have e0 : s₁.heap = h0 := by rw [← hh, Bd.state]; rfl
  have N0 := Fr.nil n0
  show Gl p e below (Pos 2 6 (Q3k2 Z a0 a1 ka x0 x1 G1 w_sf h0 n0) s) s₁ _
  refine Gl.cast (ef3k2 m a0 a1 (0 : Int32) (2 : Int32)) ?_
  refine gb (mkF m 1 #[vr a0, vr a1, vi 0, vi 2, .val .null, .unset] [(.ref a0)]) (fun _ k => XS.aloadN X0.here hx rfl (hb hby d3_0) rfl rfl k) ?_
  obtain ⟨T1, X1, e1, st1⟩ := initO X0 hx hZ hown (hW hw 16 rfl) (hW hw 17 rfl) (hW hw 18 rfl) e0 (g := (mkF m 1 #[vr a0, vr a1, vi 0, vi 2, .val .null, .unset] [(.ref a0)])) rfl (by rw [hml]; rfl) rfl (hb hby d3_1) (by decide) (W := 0) (Nat.le_of_eq rfl) (by decide)
  refine gb (mkF m 4 #[vr a0, vr a1, vi 0, vi 2, .val .null, .unset] []) st1 ?_
  refine gb (mkF m 5 #[vr a0, vr a1, vi 0, vi 2, .val .null, .unset] [(.int 2)]) (fun _ k => XS.iloadN X1.here hx rfl (hb hby d3_4) rfl k) ?_
  refine gb (mkF m 27 #[vr a0, vr a1, vi 0, vi 2, .val .null, .unset] []) (fun _ k => XS.ifYes X1.here hx rfl (pc0 := 5) (pc' := 27) rfl (hb hby d3_5) rfl ((if0 _ _).trans (feq (by decide : ¬ ((2 : Int32) = (0 : Int32)))).2) (by decide) (by decide) k) ?_
  obtain ⟨T2, X2, e2, st2⟩ := getS2 X1 hx hZ hown (host := "") (Or.inl (hW hw 41 rfl)) Via.refl e1 (Sta.ext O.2 W.1) (g := (mkF m 27 #[vr a0, vr a1, vi 0, vi 2, .val .null, .unset] [])) rfl (hb hby d3_27)
  refine gb (mkF m 30 #[vr a0, vr a1, vi 0, vi 2, .val .null, .unset] [(.int G1)]) st2 ?_
  refine gb (mkF m 33 #[vr a0, vr a1, vi 0, vi 2, .val .null, .unset] []) (fun _ k => XS.ifNo X2.here hx rfl (hb hby d3_30) rfl ((if0 _ _).trans (feq W.2.1).1) k) ?_
  refine gb (mkF m 34 #[vr a0, vr a1, vi 0, vi 2, .val .null, .unset] [(.ref a1)]) (fun _ k => XS.aloadN X2.here hx rfl (hb hby d3_33) rfl rfl k) ?_
  refine gb (mkF m 35 #[vr a0, vr a1, vi 0, vi 2, .val .null, .unset] [(.int 0), (.ref a1)]) (fun _ k => XS.iloadN X2.here hx rfl (hb hby d3_34) rfl k) ?_
  refine gb (mkF m 36 #[vr a0, vr a1, vi 0, vi 2, .val .null, .unset] [(.int 2), (.int 0), (.ref a1)]) (fun _ k => XS.iloadN X2.here hx rfl (hb hby d3_35) rfl k) ?_
  obtain ⟨_, _, ⟨T3, L3, k3, n3⟩, -, X3, ⟨Lc3, hQ3, l3, y3, z3⟩, st3⟩ := callS X2 hx (y := mq16) hown (mvT hZ (hW hw 45 rfl)) (mvT hZ (hW hw 46 rfl)) (mvT hZ (hW hw 47 rfl)) (mvT hZ (hW hw 48 rfl)) (by decide) (backOf (W := 0) (rm92 l Z a0' hw [] a1 ka x0 x1 G1 w_sf h0 n0 O W pf4 hc0 hc1) hZ (hW hw 48 rfl) (hW hw 47 rfl) (by decide) (by decide)) (g := (mkF m 36 #[vr a0, vr a1, vi 0, vi 2, .val .null, .unset] [(.int 2), (.int 0), (.ref a1)])) rfl (by rw [hml]; rfl) (argsL := [(.ref a1), (.int 0), (.int 2)]) (rest := []) (lenOf pd217 rfl) rfl (Nat.le_of_eq rfl) (hb hby d3_36) (fun _ _ => ⟨rfl, e2, (by decide : 0 + 2 ≤ _), (by decide : 0 + 6 ≤ _)⟩)
  dsimp only [Pt.U, Pt.locs, Pt.cells, Pt.slots] at X3 l3 y3 z3 st3 hQ3
  subst l3 y3 z3
  obtain ⟨b_3, kb_3, rfl, N3q, Kc3, fc3_0, fc3_1⟩ := hQ3
  have N3 := Fr.app N0 N3q
  have nb4 : a0 ≠ b_3 := Nat.ne_of_lt (Nat.lt_of_lt_of_le pf0.lt fc3_0)
  have nb5 : a1 ≠ b_3 := Nat.ne_of_lt (Nat.lt_of_lt_of_le pf4.lt fc3_0)
  refine gb (mkF m 39 #[vr a0, vr a1, vi 0, vi 2, .val .null, .unset] [(.ref b_3)]) st3 ?_
  rcases fc3_1 with ⟨hN, hV⟩ | ⟨hN, hV⟩
  · refine gb (mkF m 41 #[vr a0, vr a1, vi 0, vi 2, .val .null, vr b_3] []) (fun _ k => XS.astore X3.here hx rfl (hb hby d3_39) rfl rfl (l' := #[vr a0, vr a1, vi 0, vi 2, .val .null, vr b_3]) rfl k) ?_
    refine gb (mkF m 42 #[vr a0, vr a1, vi 0, vi 2, .val .null, vr b_3] [(.ref a0)]) (fun _ k => XS.aloadN X3.here hx rfl (hb hby d3_41) rfl rfl k) ?_
    refine gb (mkF m 44 #[vr a0, vr a1, vi 0, vi 2, .val .null, vr b_3] [(.ref b_3), (.ref a0)]) (fun _ k => XS.aload X3.here hx rfl (hb hby d3_42) rfl rfl k) ?_
    refine gb (mkF m 45 #[vr a0, vr a1, vi 0, vi 2, .val .null, vr b_3] [(.int 2), (.ref b_3), (.ref a0)]) (fun _ k => XS.iloadN X3.here hx rfl (hb hby d3_44) rfl k) ?_
    have O7 := (O.keep Kc3 all0)
    obtain ⟨_, _, ⟨T6, L6, k6, n6⟩, -, X6, ⟨Lc6, hQ6, l6, y6, z6⟩, st6⟩ := callS X3 hx (y := mq17) hown (mvT hZ (hW hw 52 rfl)) (mvT hZ (hW hw 53 rfl)) (mvT hZ (hW hw 47 rfl)) (mvT hZ (hW hw 54 rfl)) (by decide) (backOf (W := 1) (rm112_2 l Z a0' hw [] b_3 kb_3 [(.int (bL x0)), (.int (bL x1))] G1 w_sf T3.heap n0 O7 W hV) hZ (hW hw 54 rfl) (hW hw 47 rfl) (by decide) (by decide)) (g := (mkF m 45 #[vr a0, vr a1, vi 0, vi 2, .val .null, vr b_3] [(.int 2), (.ref b_3), (.ref a0)])) rfl (by rw [hml]; rfl) (argsL := [(.ref b_3), (.int 2)]) (rest := [(.ref a0)]) (lenOf pd265 rfl) rfl (Nat.le_of_eq rfl) (hb hby d3_45) (fun _ _ => ⟨rfl, rfl, (by decide : 2 + 0 ≤ _), (by decide : 6 + 0 ≤ _)⟩)
    dsimp only [Pt.U, Pt.locs, Pt.cells, Pt.slots] at X6 l6 y6 z6 st6 hQ6
    subst l6 y6 z6
    obtain ⟨rfl, N6q, e6⟩ := hQ6
    have N6 := Fr.app N3 N6q
    refine gb (mkF m 48 #[vr a0, vr a1, vi 0, vi 2, .val .null, vr b_3] [(.int 0), (.ref a0)]) st6 ?_
    have f8 := (Exa.keep pf0 Kc3)
    have f9 := (Fld.keep pf2 Kc3 nin0)
    obtain ⟨T10, h10, X10, e10, W10, st10⟩ := putFN X6 hx hZ hown (hW hw 26 rfl) Via.refl e6 f9 f8 (Or.inr ⟨(hW hw 22 rfl), rfl, hnm⟩) (hW hw 7 rfl) (ty := .byte) (v' := (.int ((0 : Int32).toInt8.toInt32))) (by decide) rfl (fits_nar_byte _) (g := (mkF m 48 #[vr a0, vr a1, vi 0, vi 2, .val .null, vr b_3] [(.int 0), (.ref a0)])) rfl rfl (hb hby d3_48)
    have N10 := Fr.snoc X10 N6 gp_a0
    have Fw10 := Fld.same W10 f9
    refine gb (mkF m 51 #[vr a0, vr a1, vi 0, vi 2, .val .null, vr b_3] []) st10 ?_
    refine gb (mkF m 52 #[vr a0, vr a1, vi 0, vi 2, .val .null, vr b_3] [(.ref a0)]) (fun _ k => XS.aloadN X10.here hx rfl (hb hby d3_51) rfl rfl k) ?_
    refine gb (mkF m 54 #[vr a0, vr a1, vi 0, vi 2, .val .null, vr b_3] [(.ref b_3), (.ref a0)]) (fun _ k => XS.aload X10.here hx rfl (hb hby d3_52) rfl rfl k) ?_
    have f11 := (Exa.wr W10 f8)
    have f12 := (Fld.other W10 (Fld.keep pf1 Kc3 nin0) (Or.inr (slot_ne (Or.inr (hW hw 21 rfl)) (Or.inr (hW hw 22 rfl)) (by decide) (t := (.array .byte)) (t' := .byte) (by decide) (by decide))))
    obtain ⟨T13, h13, X13, e13, W13, st13⟩ := putF X10 hx hZ hown (host := "") (Or.inl (hW hw 25 rfl)) Via.refl e10 f12 f11 (Or.inr ⟨(hW hw 21 rfl), rfl, hnm⟩) (hW hw 7 rfl) (ty := (.array .byte)) (by decide) rfl rfl (g := (mkF m 54 #[vr a0, vr a1, vi 0, vi 2, .val .null, vr b_3] [(.ref b_3), (.ref a0)])) rfl rfl (hb hby d3_54)
    have N13 := Fr.snoc X13 N10 gp_a0
    have Fw13 := Fld.same W13 f12
    refine gb (mkF m 57 #[vr a0, vr a1, vi 0, vi 2, .val .null, vr b_3] []) st13 ?_
    have K14 := ((((Keep.refl h0 [a0]).trans Kc3 all0).wr W10 (Or.inl (List.mem_of_getElem? (i := 0) rfl))).wr W13 (Or.inl (List.mem_of_getElem? (i := 0) rfl)))
    have f15 := (Arv.other (Arv.other hV W10 (Ne.symm nb4)) W13 (Ne.symm nb4))
    have f16 := (Fld.other W13 Fw10 (Or.inr (slot_ne (Or.inr (hW hw 22 rfl)) (Or.inr (hW hw 21 rfl)) (by decide) (t := .byte) (t' := (.array .byte)) (by decide) (by decide))))
    exact Gl.outV X13 hx hk Bd.returns (hb hby d3_57) (Eq.mpr (congrArg (fun hh => Q3k2 Z a0 a1 ka x0 x1 G1 w_sf h0 n0 _ hh _) e13) (show Q3k2 Z a0 a1 ka x0 x1 G1 w_sf h0 n0 _ h13 _ from ⟨b_3, kb_3, rfl, N13, K14, Fw13, (Or.inl ⟨hN, (castF (congrArg Value.int (by decide : ((0 : Int32).toInt8.toInt32) = (0 : Int32))) f16), f15⟩)⟩)) (by decide) (by decide)
  · refine gb (mkF m 41 #[vr a0, vr a1, vi 0, vi 2, .val .null, vr b_3] []) (fun _ k => XS.astore X3.here hx rfl (hb hby d3_39) rfl rfl (l' := #[vr a0, vr a1, vi 0, vi 2, .val .null, vr b_3]) rfl k) ?_
    refine gb (mkF m 42 #[vr a0, vr a1, vi 0, vi 2, .val .null, vr b_3] [(.ref a0)]) (fun _ k => XS.aloadN X3.here hx rfl (hb hby d3_41) rfl rfl k) ?_
    refine gb (mkF m 44 #[vr a0, vr a1, vi 0, vi 2, .val .null, vr b_3] [(.ref b_3), (.ref a0)]) (fun _ k => XS.aload X3.here hx rfl (hb hby d3_42) rfl rfl k) ?_
    refine gb (mkF m 45 #[vr a0, vr a1, vi 0, vi 2, .val .null, vr b_3] [(.int 2), (.ref b_3), (.ref a0)]) (fun _ k => XS.iloadN X3.here hx rfl (hb hby d3_44) rfl k) ?_
    have O18 := (O.keep Kc3 all0)
    obtain ⟨_, _, ⟨T17, L17, k17, n17⟩, -, X17, ⟨Lc17, hQ17, l17, y17, z17⟩, st17⟩ := callS X3 hx (y := mq17) hown (mvT hZ (hW hw 52 rfl)) (mvT hZ (hW hw 53 rfl)) (mvT hZ (hW hw 47 rfl)) (mvT hZ (hW hw 54 rfl)) (by decide) (backOf (W := 1) (rm112_4 l Z a0' hw [] b_3 kb_3 [(.int (bA x0)), (.int (bB x0)), (.int (bA x1)), (.int (bB x1))] G1 w_sf T3.heap n0 O18 W hV) hZ (hW hw 54 rfl) (hW hw 47 rfl) (by decide) (by decide)) (g := (mkF m 45 #[vr a0, vr a1, vi 0, vi 2, .val .null, vr b_3] [(.int 2), (.ref b_3), (.ref a0)])) rfl (by rw [hml]; rfl) (argsL := [(.ref b_3), (.int 2)]) (rest := [(.ref a0)]) (lenOf pd265 rfl) rfl (Nat.le_of_eq rfl) (hb hby d3_45) (fun _ _ => ⟨rfl, rfl, (by decide : 2 + 0 ≤ _), (by decide : 6 + 0 ≤ _)⟩)
    dsimp only [Pt.U, Pt.locs, Pt.cells, Pt.slots] at X17 l17 y17 z17 st17 hQ17
    subst l17 y17 z17
    obtain ⟨rfl, N17q, e17⟩ := hQ17
    have N17 := Fr.app N3 N17q
    refine gb (mkF m 48 #[vr a0, vr a1, vi 0, vi 2, .val .null, vr b_3] [(.int 1), (.ref a0)]) st17 ?_
    have f19 := (Exa.keep pf0 Kc3)
    have f20 := (Fld.keep pf2 Kc3 nin0)
    obtain ⟨T21, h21, X21, e21, W21, st21⟩ := putFN X17 hx hZ hown (hW hw 26 rfl) Via.refl e17 f20 f19 (Or.inr ⟨(hW hw 22 rfl), rfl, hnm⟩) (hW hw 7 rfl) (ty := .byte) (v' := (.int ((1 : Int32).toInt8.toInt32))) (by decide) rfl (fits_nar_byte _) (g := (mkF m 48 #[vr a0, vr a1, vi 0, vi 2, .val .null, vr b_3] [(.int 1), (.ref a0)])) rfl rfl (hb hby d3_48)
    have N21 := Fr.snoc X21 N17 gp_a0
    have Fw21 := Fld.same W21 f20
    refine gb (mkF m 51 #[vr a0, vr a1, vi 0, vi 2, .val .null, vr b_3] []) st21 ?_
    refine gb (mkF m 52 #[vr a0, vr a1, vi 0, vi 2, .val .null, vr b_3] [(.ref a0)]) (fun _ k => XS.aloadN X21.here hx rfl (hb hby d3_51) rfl rfl k) ?_
    refine gb (mkF m 54 #[vr a0, vr a1, vi 0, vi 2, .val .null, vr b_3] [(.ref b_3), (.ref a0)]) (fun _ k => XS.aload X21.here hx rfl (hb hby d3_52) rfl rfl k) ?_
    have f22 := (Exa.wr W21 f19)
    have f23 := (Fld.other W21 (Fld.keep pf1 Kc3 nin0) (Or.inr (slot_ne (Or.inr (hW hw 21 rfl)) (Or.inr (hW hw 22 rfl)) (by decide) (t := (.array .byte)) (t' := .byte) (by decide) (by decide))))
    obtain ⟨T24, h24, X24, e24, W24, st24⟩ := putF X21 hx hZ hown (host := "") (Or.inl (hW hw 25 rfl)) Via.refl e21 f23 f22 (Or.inr ⟨(hW hw 21 rfl), rfl, hnm⟩) (hW hw 7 rfl) (ty := (.array .byte)) (by decide) rfl rfl (g := (mkF m 54 #[vr a0, vr a1, vi 0, vi 2, .val .null, vr b_3] [(.ref b_3), (.ref a0)])) rfl rfl (hb hby d3_54)
    have N24 := Fr.snoc X24 N21 gp_a0
    have Fw24 := Fld.same W24 f23
    refine gb (mkF m 57 #[vr a0, vr a1, vi 0, vi 2, .val .null, vr b_3] []) st24 ?_
    have K25 := ((((Keep.refl h0 [a0]).trans Kc3 all0).wr W21 (Or.inl (List.mem_of_getElem? (i := 0) rfl))).wr W24 (Or.inl (List.mem_of_getElem? (i := 0) rfl)))
    have f26 := (Arv.other (Arv.other hV W21 (Ne.symm nb4)) W24 (Ne.symm nb4))
    have f27 := (Fld.other W24 Fw21 (Or.inr (slot_ne (Or.inr (hW hw 22 rfl)) (Or.inr (hW hw 21 rfl)) (by decide) (t := .byte) (t' := (.array .byte)) (by decide) (by decide))))
    exact Gl.outV X24 hx hk Bd.returns (hb hby d3_57) (Eq.mpr (congrArg (fun hh => Q3k2 Z a0 a1 ka x0 x1 G1 w_sf h0 n0 _ hh _) e24) (show Q3k2 Z a0 a1 ka x0 x1 G1 w_sf h0 n0 _ h24 _ from ⟨b_3, kb_3, rfl, N24, K25, Fw24, (Or.inr ⟨hN, (castF (congrArg Value.int (by decide : ((1 : Int32).toInt8.toInt32) = (1 : Int32))) f27), f26⟩)⟩)) (by decide) (by decide)
theorem ef2k2 (m : MethodId) (x0 : Addr) (x1 : Addr) : entryFrame m #[(.ref x0), (.ref x1)] 2 = mkF m 0 #[.val (.ref x0), .val (.ref x1)] [] := by first | (simp [entryFrame, mkF, argsToLocals, Value.category]; done) | rfl
def Q2k2 (Z : State) (a0 : Addr) (a1 : Addr) (ka : ClassId) (x0 : Int32) (x1 : Int32) (G1 : Int32) (w_sf : Value) (h0 : Heap) (n0 : Nat) (v : Option Value) (h : Heap) (L : List Loc) : Prop := ∃ (b : Addr), ∃ (kb : ClassId), v = none ∧ Fr n0 L ∧ Keep h0 h [a0] ∧ Fld Z h a0 "java/lang/String" "value" "[B" (.ref b) ∧ ((¬ ((255 : Int32) < x0 ∨ (255 : Int32) < x1) ∧ Fld Z h a0 "java/lang/String" "coder" "B" (.int 0) ∧ Arv Z h b kb .byte (2 : Int32) [(.int (bL x0)), (.int (bL x1))] (.int 0)) ∨ (((255 : Int32) < x0 ∨ (255 : Int32) < x1) ∧ Fld Z h a0 "java/lang/String" "coder" "B" (.int 1) ∧ Arv Z h b kb .byte (4 : Int32) [(.int (bA x0)), (.int (bB x0)), (.int (bA x1)), (.int (bB x1))] (.int 0)))
theorem rm2k2 (l : Launch) (Z : State) (a0' : Array Value) (hw : ∀ d ∈ tables_1, d.before a0' Z = true) (ws : List Jvm.Cond) (a0 : Addr) (a1 : Addr) (ka : ClassId) (x0 : Int32) (x1 : Int32) (G1 : Int32) (w_sf : Value) (h0 : Heap) (n0 : Nat) (O : Old Z n0 h0) (W : Wd Z G1 w_sf) (pf0 : Exa Z h0 a0 "java/lang/String") (pf1 : Fld Z h0 a0 "java/lang/String" "value" "[B" .null) (pf2 : Fld Z h0 a0 "java/lang/String" "coder" "B" (.int 0)) (gp_a0 : n0 ≤ a0) (pf4 : Arv Z h0 a1 ka .char (2 : Int32) [(.int x0), (.int x1)] (.int 0)) (hc0 : nar .char x0 = x0) (hc1 : nar .char x1 = x1) :
    MetFree l mq19 (head1 (Jvm.Cond.code mq19 jdk_42_method_3_code 2 none :: ws) ({ frames := 5, cells := 2, slots := 6, locals := 74 } : Room)) (fun a U => a = #[(.ref a0), (.ref a1)] ∧ Z.Warmed39 U.vm ∧ U.heap = h0) (fun _ _ _ _ _ => True) (fun _ U o U' => ∃ v L, o = .returned v ∧ Q2k2 Z a0 a1 ka x0 x1 G1 w_sf h0 n0 v U'.heap L ∧ FrameEnd U o U' L ({ frames := 5, cells := 2, slots := 6, locals := 74 } : Room).cells ({ frames := 5, cells := 2, slots := 6, locals := 74 } : Room).slots) := by
  refine MetFree.of_bodySF (plainFor_of_name pn1) hisR ?_
  intro p e s m args below meth c s₁ Bd hml0 hP hK
  obtain ⟨rfl, hZ, hh⟩ := hP
  have hx := Bd.exec
  have hby := Bd.bytes
  have hml : c.maxLocals = 2 := hml0
  have hown : s.vm.findClass "java/lang/String" = some m.cls := findClass_of_methodNamed Bd.named
  have hnm := (name_of_methodNamed Bd.named Bd.method).1
  have hk := Bd.notSynchronized
  have X0 : Stand p l e ({ frames := 5, cells := 2, slots := 6, locals := 74 } : Room) s m #[(.ref a0), (.ref a1)] below meth c s₁ [] 0 0 := Stand.of_body Bd
  have hh2 := hh
  have e0 : s₁.heap = h0 := by rw [← hh, Bd.state]; rfl
  have N0 := Fr.nil n0
  show Gl p e below (Pos 2 6 (Q2k2 Z a0 a1 ka x0 x1 G1 w_sf h0 n0) s) s₁ _
  refine Gl.cast (ef2k2 m a0 a1) ?_
  refine gb (mkF m 1 #[vr a0, vr a1] [(.ref a0)]) (fun _ k => XS.aloadN X0.here hx rfl (hb hby d2_0) rfl rfl k) ?_
  refine gb (mkF m 2 #[vr a0, vr a1] [(.ref a1), (.ref a0)]) (fun _ k => XS.aloadN X0.here hx rfl (hb hby d2_1) rfl rfl k) ?_
  refine gb (mkF m 3 #[vr a0, vr a1] [(.int 0), (.ref a1), (.ref a0)]) (fun _ k => XS.iconst X0.here hx rfl (hb hby d2_2) k) ?_
  refine gb (mkF m 4 #[vr a0, vr a1] [(.ref a1), (.int 0), (.ref a1), (.ref a0)]) (fun _ k => XS.aloadN X0.here hx rfl (hb hby d2_3) rfl rfl k) ?_
  obtain ⟨cl1, Ar1, qa1, Sa1, Na1, Ha1, Ga1⟩ := id pf4
  refine gb (mkF m 5 #[vr a0, vr a1] [(.int 2), (.int 0), (.ref a1), (.ref a0)]) (fun t k => X0.arraylength hx (by rw [e0]; exact Ar1.1) (State.isArrayOf_alike hZ.alike Ar1.2.1) (g := (mkF m 4 #[vr a0, vr a1] [(.ref a1), (.int 0), (.ref a1), (.ref a0)])) rfl rfl (hb hby d2_4) t (by rw [len_of Sa1 Na1]; exact k)) ?_
  refine gb (mkF m 6 #[vr a0, vr a1] [.null, (.int 2), (.int 0), (.ref a1), (.ref a0)]) (fun _ k => XS.aconstNull X0.here hx rfl (hb hby d2_5) k) ?_
  obtain ⟨_, _, ⟨T2, L2, k2, n2⟩, -, X2, ⟨Lc2, hQ2, l2, y2, z2⟩, st2⟩ := X0.specialBack hx (y := mq18) rfl hown (mvT hZ (hW hw 12 rfl)) (mvT hZ (hW hw 13 rfl)) (mvT hZ (hW hw 15 rfl)) (by decide) (backOf (W := 0) (rm3k2 l Z a0' hw [] a0 a1 ka x0 x1 G1 w_sf h0 n0 O W pf0 pf1 pf2 gp_a0 pf4 hc0 hc1) hZ (hW hw 15 rfl) (hW hw 8 rfl) (by decide) (by decide)) (g := (mkF m 6 #[vr a0, vr a1] [.null, (.int 2), (.int 0), (.ref a1), (.ref a0)])) rfl (by rw [hml]; rfl) (Steps.refl _) (a := a0) (argsL := [(.ref a1), (.int 0), (.int 2), .null]) (rest := []) (lenOf pd248 rfl) rfl (Nat.le_of_eq rfl) (hb hby d2_6) (fun _ _ => ⟨rfl, e0, (by decide : 0 + 2 ≤ _), (by decide : 0 + 6 ≤ _)⟩)
  dsimp only [Pt.U, Pt.locs, Pt.cells, Pt.slots] at X2 l2 y2 z2 st2 hQ2
  subst l2 y2 z2
  obtain ⟨b_2, kb_2, rfl, N2q, Kc2, fc2_0, fc2_1⟩ := hQ2
  have N2 := Fr.app N0 N2q
  refine gb (mkF m 9 #[vr a0, vr a1] []) (fun _ k => st2.trans k) ?_
  have K3 := ((Keep.refl h0 [a0]).trans Kc2 (allS (Or.inl (List.mem_of_getElem? (i := 0) rfl)) all0))
  exact Gl.outV X2 hx hk Bd.returns (hb hby d2_9) ⟨b_2, kb_2, rfl, N2, K3, fc2_0, fc2_1⟩ (by decide) (by decide)
theorem ef3k3 (m : MethodId) (x0 : Addr) (x1 : Addr) (x2 : Int32) (x3 : Int32) : entryFrame m #[(.ref x0), (.ref x1), (.int x2), (.int x3), .null] 6 = mkF m 0 #[.val (.ref x0), .val (.ref x1), .val (.int x2), .val (.int x3), .val .null, .unset] [] := by first | (simp [entryFrame, mkF, argsToLocals, Value.category]; done) | rfl
def Q3k3 (Z : State) (a0 : Addr) (a1 : Addr) (ka : ClassId) (x0 : Int32) (x1 : Int32) (x2 : Int32) (G1 : Int32) (w_sf : Value) (h0 : Heap) (n0 : Nat) (v : Option Value) (h : Heap) (L : List Loc) : Prop := ∃ (b : Addr), ∃ (kb : ClassId), v = none ∧ Fr n0 L ∧ Keep h0 h [a0] ∧ Fld Z h a0 "java/lang/String" "value" "[B" (.ref b) ∧ ((¬ ((255 : Int32) < x0 ∨ (255 : Int32) < x1 ∨ (255 : Int32) < x2) ∧ Fld Z h a0 "java/lang/String" "coder" "B" (.int 0) ∧ Arv Z h b kb .byte (3 : Int32) [(.int (bL x0)), (.int (bL x1)), (.int (bL x2))] (.int 0)) ∨ (((255 : Int32) < x0 ∨ (255 : Int32) < x1 ∨ (255 : Int32) < x2) ∧ Fld Z h a0 "java/lang/String" "coder" "B" (.int 1) ∧ Arv Z h b kb .byte (6 : Int32) [(.int (bA x0)), (.int (bB x0)), (.int (bA x1)), (.int (bB x1)), (.int (bA x2)), (.int (bB x2))] (.int 0)))
theorem rm3k3 (l : Launch) (Z : State) (a0' : Array Value) (hw : ∀ d ∈ tables_1, d.before a0' Z = true) (ws : List Jvm.Cond) (a0 : Addr) (a1 : Addr) (ka : ClassId) (x0 : Int32) (x1 : Int32) (x2 : Int32) (G1 : Int32) (w_sf : Value) (h0 : Heap) (n0 : Nat) (O : Old Z n0 h0) (W : Wd Z G1 w_sf) (pf0 : Exa Z h0 a0 "java/lang/String") (pf1 : Fld Z h0 a0 "java/lang/String" "value" "[B" .null) (pf2 : Fld Z h0 a0 "java/lang/String" "coder" "B" (.int 0)) (gp_a0 : n0 ≤ a0) (pf4 : Arv Z h0 a1 ka .char (3 : Int32) [(.int x0), (.int x1), (.int x2)] (.int 0)) (hc0 : nar .char x0 = x0) (hc1 : nar .char x1 = x1) (hc2 : nar .char x2 = x2) :
    MetFree l mq18 (head1 (Jvm.Cond.code mq18 jdk_42_method_149_code 6 none :: ws) ({ frames := 4, cells := 2, slots := 9, locals := 57 } : Room)) (fun a U => a = #[(.ref a0), (.ref a1), (.int 0), (.int 3), .null] ∧ Z.Warmed39 U.vm ∧ U.heap = h0) (fun _ _ _ _ _ => True) (fun _ U o U' => ∃ v L, o = .returned v ∧ Q3k3 Z a0 a1 ka x0 x1 x2 G1 w_sf h0 n0 v U'.heap L ∧ FrameEnd U o U' L ({ frames := 4, cells := 2, slots := 9, locals := 57 } : Room).cells ({ frames := 4, cells := 2, slots := 9, locals := 57 } : Room).slots) := by
  refine MetFree.of_bodySF (plainFor_of_name pn1) hisR ?_
  intro p e s m args below meth c s₁ Bd hml0 hP hK
  obtain ⟨rfl, hZ, hh⟩ := hP
  have hx := Bd.exec
  have hby := Bd.bytes
  have hml : c.maxLocals = 6 := hml0
  have hown : s.vm.findClass "java/lang/String" = some m.cls := findClass_of_methodNamed Bd.named
  have hnm := (name_of_methodNamed Bd.named Bd.method).1
  have hk := Bd.notSynchronized
  have X0 : Stand p l e ({ frames := 4, cells := 2, slots := 9, locals := 57 } : Room) s m #[(.ref a0), (.ref a1), (.int 0), (.int 3), .null] below meth c s₁ [] 0 0 := Stand.of_body Bd
  have hh2 := hh
  have e0 : s₁.heap = h0 := by rw [← hh, Bd.state]; rfl
  have N0 := Fr.nil n0
  show Gl p e below (Pos 2 9 (Q3k3 Z a0 a1 ka x0 x1 x2 G1 w_sf h0 n0) s) s₁ _
  refine Gl.cast (ef3k3 m a0 a1 (0 : Int32) (3 : Int32)) ?_
  refine gb (mkF m 1 #[vr a0, vr a1, vi 0, vi 3, .val .null, .unset] [(.ref a0)]) (fun _ k => XS.aloadN X0.here hx rfl (hb hby d3_0) rfl rfl k) ?_
  obtain ⟨T1, X1, e1, st1⟩ := initO X0 hx hZ hown (hW hw 16 rfl) (hW hw 17 rfl) (hW hw 18 rfl) e0 (g := (mkF m 1 #[vr a0, vr a1, vi 0, vi 3, .val .null, .unset] [(.ref a0)])) rfl (by rw [hml]; rfl) rfl (hb hby d3_1) (by decide) (W := 0) (Nat.le_of_eq rfl) (by decide)
  refine gb (mkF m 4 #[vr a0, vr a1, vi 0, vi 3, .val .null, .unset] []) st1 ?_
  refine gb (mkF m 5 #[vr a0, vr a1, vi 0, vi 3, .val .null, .unset] [(.int 3)]) (fun _ k => XS.iloadN X1.here hx rfl (hb hby d3_4) rfl k) ?_
  refine gb (mkF m 27 #[vr a0, vr a1, vi 0, vi 3, .val .null, .unset] []) (fun _ k => XS.ifYes X1.here hx rfl (pc0 := 5) (pc' := 27) rfl (hb hby d3_5) rfl ((if0 _ _).trans (feq (by decide : ¬ ((3 : Int32) = (0 : Int32)))).2) (by decide) (by decide) k) ?_
  obtain ⟨T2, X2, e2, st2⟩ := getS2 X1 hx hZ hown (host := "") (Or.inl (hW hw 41 rfl)) Via.refl e1 (Sta.ext O.2 W.1) (g := (mkF m 27 #[vr a0, vr a1, vi 0, vi 3, .val .null, .unset] [])) rfl (hb hby d3_27)
  refine gb (mkF m 30 #[vr a0, vr a1, vi 0, vi 3, .val .null, .unset] [(.int G1)]) st2 ?_
  refine gb (mkF m 33 #[vr a0, vr a1, vi 0, vi 3, .val .null, .unset] []) (fun _ k => XS.ifNo X2.here hx rfl (hb hby d3_30) rfl ((if0 _ _).trans (feq W.2.1).1) k) ?_
  refine gb (mkF m 34 #[vr a0, vr a1, vi 0, vi 3, .val .null, .unset] [(.ref a1)]) (fun _ k => XS.aloadN X2.here hx rfl (hb hby d3_33) rfl rfl k) ?_
  refine gb (mkF m 35 #[vr a0, vr a1, vi 0, vi 3, .val .null, .unset] [(.int 0), (.ref a1)]) (fun _ k => XS.iloadN X2.here hx rfl (hb hby d3_34) rfl k) ?_
  refine gb (mkF m 36 #[vr a0, vr a1, vi 0, vi 3, .val .null, .unset] [(.int 3), (.int 0), (.ref a1)]) (fun _ k => XS.iloadN X2.here hx rfl (hb hby d3_35) rfl k) ?_
  obtain ⟨_, _, ⟨T3, L3, k3, n3⟩, -, X3, ⟨Lc3, hQ3, l3, y3, z3⟩, st3⟩ := callS X2 hx (y := mq16) hown (mvT hZ (hW hw 45 rfl)) (mvT hZ (hW hw 46 rfl)) (mvT hZ (hW hw 47 rfl)) (mvT hZ (hW hw 48 rfl)) (by decide) (backOf (W := 0) (rm93 l Z a0' hw [] a1 ka x0 x1 x2 G1 w_sf h0 n0 O W pf4 hc0 hc1 hc2) hZ (hW hw 48 rfl) (hW hw 47 rfl) (by decide) (by decide)) (g := (mkF m 36 #[vr a0, vr a1, vi 0, vi 3, .val .null, .unset] [(.int 3), (.int 0), (.ref a1)])) rfl (by rw [hml]; rfl) (argsL := [(.ref a1), (.int 0), (.int 3)]) (rest := []) (lenOf pd217 rfl) rfl (Nat.le_of_eq rfl) (hb hby d3_36) (fun _ _ => ⟨rfl, e2, (by decide : 0 + 2 ≤ _), (by decide : 0 + 9 ≤ _)⟩)
  dsimp only [Pt.U, Pt.locs, Pt.cells, Pt.slots] at X3 l3 y3 z3 st3 hQ3
  subst l3 y3 z3
  obtain ⟨b_3, kb_3, rfl, N3q, Kc3, fc3_0, fc3_1⟩ := hQ3
  have N3 := Fr.app N0 N3q
  have nb4 : a0 ≠ b_3 := Nat.ne_of_lt (Nat.lt_of_lt_of_le pf0.lt fc3_0)
  have nb5 : a1 ≠ b_3 := Nat.ne_of_lt (Nat.lt_of_lt_of_le pf4.lt fc3_0)
  refine gb (mkF m 39 #[vr a0, vr a1, vi 0, vi 3, .val .null, .unset] [(.ref b_3)]) st3 ?_
  rcases fc3_1 with ⟨hN, hV⟩ | ⟨hN, hV⟩
  · refine gb (mkF m 41 #[vr a0, vr a1, vi 0, vi 3, .val .null, vr b_3] []) (fun _ k => XS.astore X3.here hx rfl (hb hby d3_39) rfl rfl (l' := #[vr a0, vr a1, vi 0, vi 3, .val .null, vr b_3]) rfl k) ?_
    refine gb (mkF m 42 #[vr a0, vr a1, vi 0, vi 3, .val .null, vr b_3] [(.ref a0)]) (fun _ k => XS.aloadN X3.here hx rfl (hb hby d3_41) rfl rfl k) ?_
    refine gb (mkF m 44 #[vr a0, vr a1, vi 0, vi 3, .val .null, vr b_3] [(.ref b_3), (.ref a0)]) (fun _ k => XS.aload X3.here hx rfl (hb hby d3_42) rfl rfl k) ?_
    refine gb (mkF m 45 #[vr a0, vr a1, vi 0, vi 3, .val .null, vr b_3] [(.int 3), (.ref b_3), (.ref a0)]) (fun _ k => XS.iloadN X3.here hx rfl (hb hby d3_44) rfl k) ?_
    have O7 := (O.keep Kc3 all0)
    obtain ⟨_, _, ⟨T6, L6, k6, n6⟩, -, X6, ⟨Lc6, hQ6, l6, y6, z6⟩, st6⟩ := callS X3 hx (y := mq17) hown (mvT hZ (hW hw 52 rfl)) (mvT hZ (hW hw 53 rfl)) (mvT hZ (hW hw 47 rfl)) (mvT hZ (hW hw 54 rfl)) (by decide) (backOf (W := 1) (rm113_3 l Z a0' hw [] b_3 kb_3 [(.int (bL x0)), (.int (bL x1)), (.int (bL x2))] G1 w_sf T3.heap n0 O7 W hV) hZ (hW hw 54 rfl) (hW hw 47 rfl) (by decide) (by decide)) (g := (mkF m 45 #[vr a0, vr a1, vi 0, vi 3, .val .null, vr b_3] [(.int 3), (.ref b_3), (.ref a0)])) rfl (by rw [hml]; rfl) (argsL := [(.ref b_3), (.int 3)]) (rest := [(.ref a0)]) (lenOf pd265 rfl) rfl (Nat.le_of_eq rfl) (hb hby d3_45) (fun _ _ => ⟨rfl, rfl, (by decide : 2 + 0 ≤ _), (by decide : 9 + 0 ≤ _)⟩)
    dsimp only [Pt.U, Pt.locs, Pt.cells, Pt.slots] at X6 l6 y6 z6 st6 hQ6
    subst l6 y6 z6
    obtain ⟨rfl, N6q, e6⟩ := hQ6
    have N6 := Fr.app N3 N6q
    refine gb (mkF m 48 #[vr a0, vr a1, vi 0, vi 3, .val .null, vr b_3] [(.int 0), (.ref a0)]) st6 ?_
    have f8 := (Exa.keep pf0 Kc3)
    have f9 := (Fld.keep pf2 Kc3 nin0)
    obtain ⟨T10, h10, X10, e10, W10, st10⟩ := putFN X6 hx hZ hown (hW hw 26 rfl) Via.refl e6 f9 f8 (Or.inr ⟨(hW hw 22 rfl), rfl, hnm⟩) (hW hw 7 rfl) (ty := .byte) (v' := (.int ((0 : Int32).toInt8.toInt32))) (by decide) rfl (fits_nar_byte _) (g := (mkF m 48 #[vr a0, vr a1, vi 0, vi 3, .val .null, vr b_3] [(.int 0), (.ref a0)])) rfl rfl (hb hby d3_48)
    have N10 := Fr.snoc X10 N6 gp_a0
    have Fw10 := Fld.same W10 f9
    refine gb (mkF m 51 #[vr a0, vr a1, vi 0, vi 3, .val .null, vr b_3] []) st10 ?_
    refine gb (mkF m 52 #[vr a0, vr a1, vi 0, vi 3, .val .null, vr b_3] [(.ref a0)]) (fun _ k => XS.aloadN X10.here hx rfl (hb hby d3_51) rfl rfl k) ?_
    refine gb (mkF m 54 #[vr a0, vr a1, vi 0, vi 3, .val .null, vr b_3] [(.ref b_3), (.ref a0)]) (fun _ k => XS.aload X10.here hx rfl (hb hby d3_52) rfl rfl k) ?_
    have f11 := (Exa.wr W10 f8)
    have f12 := (Fld.other W10 (Fld.keep pf1 Kc3 nin0) (Or.inr (slot_ne (Or.inr (hW hw 21 rfl)) (Or.inr (hW hw 22 rfl)) (by decide) (t := (.array .byte)) (t' := .byte) (by decide) (by decide))))
    obtain ⟨T13, h13, X13, e13, W13, st13⟩ := putF X10 hx hZ hown (host := "") (Or.inl (hW hw 25 rfl)) Via.refl e10 f12 f11 (Or.inr ⟨(hW hw 21 rfl), rfl, hnm⟩) (hW hw 7 rfl) (ty := (.array .byte)) (by decide) rfl rfl (g := (mkF m 54 #[vr a0, vr a1, vi 0, vi 3, .val .null, vr b_3] [(.ref b_3), (.ref a0)])) rfl rfl (hb hby d3_54)
    have N13 := Fr.snoc X13 N10 gp_a0
    have Fw13 := Fld.same W13 f12
    refine gb (mkF m 57 #[vr a0, vr a1, vi 0, vi 3, .val .null, vr b_3] []) st13 ?_
    have K14 := ((((Keep.refl h0 [a0]).trans Kc3 all0).wr W10 (Or.inl (List.mem_of_getElem? (i := 0) rfl))).wr W13 (Or.inl (List.mem_of_getElem? (i := 0) rfl)))
    have f15 := (Arv.other (Arv.other hV W10 (Ne.symm nb4)) W13 (Ne.symm nb4))
    have f16 := (Fld.other W13 Fw10 (Or.inr (slot_ne (Or.inr (hW hw 22 rfl)) (Or.inr (hW hw 21 rfl)) (by decide) (t := .byte) (t' := (.array .byte)) (by decide) (by decide))))
    exact Gl.outV X13 hx hk Bd.returns (hb hby d3_57) (Eq.mpr (congrArg (fun hh => Q3k3 Z a0 a1 ka x0 x1 x2 G1 w_sf h0 n0 _ hh _) e13) (show Q3k3 Z a0 a1 ka x0 x1 x2 G1 w_sf h0 n0 _ h13 _ from ⟨b_3, kb_3, rfl, N13, K14, Fw13, (Or.inl ⟨hN, (castF (congrArg Value.int (by decide : ((0 : Int32).toInt8.toInt32) = (0 : Int32))) f16), f15⟩)⟩)) (by decide) (by decide)
  · refine gb (mkF m 41 #[vr a0, vr a1, vi 0, vi 3, .val .null, vr b_3] []) (fun _ k => XS.astore X3.here hx rfl (hb hby d3_39) rfl rfl (l' := #[vr a0, vr a1, vi 0, vi 3, .val .null, vr b_3]) rfl k) ?_
    refine gb (mkF m 42 #[vr a0, vr a1, vi 0, vi 3, .val .null, vr b_3] [(.ref a0)]) (fun _ k => XS.aloadN X3.here hx rfl (hb hby d3_41) rfl rfl k) ?_
    refine gb (mkF m 44 #[vr a0, vr a1, vi 0, vi 3, .val .null, vr b_3] [(.ref b_3), (.ref a0)]) (fun _ k => XS.aload X3.here hx rfl (hb hby d3_42) rfl rfl k) ?_
    refine gb (mkF m 45 #[vr a0, vr a1, vi 0, vi 3, .val .null, vr b_3] [(.int 3), (.ref b_3), (.ref a0)]) (fun _ k => XS.iloadN X3.here hx rfl (hb hby d3_44) rfl k) ?_
    have O18 := (O.keep Kc3 all0)
    obtain ⟨_, _, ⟨T17, L17, k17, n17⟩, -, X17, ⟨Lc17, hQ17, l17, y17, z17⟩, st17⟩ := callS X3 hx (y := mq17) hown (mvT hZ (hW hw 52 rfl)) (mvT hZ (hW hw 53 rfl)) (mvT hZ (hW hw 47 rfl)) (mvT hZ (hW hw 54 rfl)) (by decide) (backOf (W := 1) (rm113_6 l Z a0' hw [] b_3 kb_3 [(.int (bA x0)), (.int (bB x0)), (.int (bA x1)), (.int (bB x1)), (.int (bA x2)), (.int (bB x2))] G1 w_sf T3.heap n0 O18 W hV) hZ (hW hw 54 rfl) (hW hw 47 rfl) (by decide) (by decide)) (g := (mkF m 45 #[vr a0, vr a1, vi 0, vi 3, .val .null, vr b_3] [(.int 3), (.ref b_3), (.ref a0)])) rfl (by rw [hml]; rfl) (argsL := [(.ref b_3), (.int 3)]) (rest := [(.ref a0)]) (lenOf pd265 rfl) rfl (Nat.le_of_eq rfl) (hb hby d3_45) (fun _ _ => ⟨rfl, rfl, (by decide : 2 + 0 ≤ _), (by decide : 9 + 0 ≤ _)⟩)
    dsimp only [Pt.U, Pt.locs, Pt.cells, Pt.slots] at X17 l17 y17 z17 st17 hQ17
    subst l17 y17 z17
    obtain ⟨rfl, N17q, e17⟩ := hQ17
    have N17 := Fr.app N3 N17q
    refine gb (mkF m 48 #[vr a0, vr a1, vi 0, vi 3, .val .null, vr b_3] [(.int 1), (.ref a0)]) st17 ?_
    have f19 := (Exa.keep pf0 Kc3)
    have f20 := (Fld.keep pf2 Kc3 nin0)
    obtain ⟨T21, h21, X21, e21, W21, st21⟩ := putFN X17 hx hZ hown (hW hw 26 rfl) Via.refl e17 f20 f19 (Or.inr ⟨(hW hw 22 rfl), rfl, hnm⟩) (hW hw 7 rfl) (ty := .byte) (v' := (.int ((1 : Int32).toInt8.toInt32))) (by decide) rfl (fits_nar_byte _) (g := (mkF m 48 #[vr a0, vr a1, vi 0, vi 3, .val .null, vr b_3] [(.int 1), (.ref a0)])) rfl rfl (hb hby d3_48)
    have N21 := Fr.snoc X21 N17 gp_a0
    have Fw21 := Fld.same W21 f20
    refine gb (mkF m 51 #[vr a0, vr a1, vi 0, vi 3, .val .null, vr b_3] []) st21 ?_
    refine gb (mkF m 52 #[vr a0, vr a1, vi 0, vi 3, .val .null, vr b_3] [(.ref a0)]) (fun _ k => XS.aloadN X21.here hx rfl (hb hby d3_51) rfl rfl k) ?_
    refine gb (mkF m 54 #[vr a0, vr a1, vi 0, vi 3, .val .null, vr b_3] [(.ref b_3), (.ref a0)]) (fun _ k => XS.aload X21.here hx rfl (hb hby d3_52) rfl rfl k) ?_
    have f22 := (Exa.wr W21 f19)
    have f23 := (Fld.other W21 (Fld.keep pf1 Kc3 nin0) (Or.inr (slot_ne (Or.inr (hW hw 21 rfl)) (Or.inr (hW hw 22 rfl)) (by decide) (t := (.array .byte)) (t' := .byte) (by decide) (by decide))))
    obtain ⟨T24, h24, X24, e24, W24, st24⟩ := putF X21 hx hZ hown (host := "") (Or.inl (hW hw 25 rfl)) Via.refl e21 f23 f22 (Or.inr ⟨(hW hw 21 rfl), rfl, hnm⟩) (hW hw 7 rfl) (ty := (.array .byte)) (by decide) rfl rfl (g := (mkF m 54 #[vr a0, vr a1, vi 0, vi 3, .val .null, vr b_3] [(.ref b_3), (.ref a0)])) rfl rfl (hb hby d3_54)
    have N24 := Fr.snoc X24 N21 gp_a0
    have Fw24 := Fld.same W24 f23
    refine gb (mkF m 57 #[vr a0, vr a1, vi 0, vi 3, .val .null, vr b_3] []) st24 ?_
    have K25 := ((((Keep.refl h0 [a0]).trans Kc3 all0).wr W21 (Or.inl (List.mem_of_getElem? (i := 0) rfl))).wr W24 (Or.inl (List.mem_of_getElem? (i := 0) rfl)))
    have f26 := (Arv.other (Arv.other hV W21 (Ne.symm nb4)) W24 (Ne.symm nb4))
    have f27 := (Fld.other W24 Fw21 (Or.inr (slot_ne (Or.inr (hW hw 22 rfl)) (Or.inr (hW hw 21 rfl)) (by decide) (t := .byte) (t' := (.array .byte)) (by decide) (by decide))))
    exact Gl.outV X24 hx hk Bd.returns (hb hby d3_57) (Eq.mpr (congrArg (fun hh => Q3k3 Z a0 a1 ka x0 x1 x2 G1 w_sf h0 n0 _ hh _) e24) (show Q3k3 Z a0 a1 ka x0 x1 x2 G1 w_sf h0 n0 _ h24 _ from ⟨b_3, kb_3, rfl, N24, K25, Fw24, (Or.inr ⟨hN, (castF (congrArg Value.int (by decide : ((1 : Int32).toInt8.toInt32) = (1 : Int32))) f27), f26⟩)⟩)) (by decide) (by decide)
theorem ef2k3 (m : MethodId) (x0 : Addr) (x1 : Addr) : entryFrame m #[(.ref x0), (.ref x1)] 2 = mkF m 0 #[.val (.ref x0), .val (.ref x1)] [] := by first | (simp [entryFrame, mkF, argsToLocals, Value.category]; done) | rfl
def Q2k3 (Z : State) (a0 : Addr) (a1 : Addr) (ka : ClassId) (x0 : Int32) (x1 : Int32) (x2 : Int32) (G1 : Int32) (w_sf : Value) (h0 : Heap) (n0 : Nat) (v : Option Value) (h : Heap) (L : List Loc) : Prop := ∃ (b : Addr), ∃ (kb : ClassId), v = none ∧ Fr n0 L ∧ Keep h0 h [a0] ∧ Fld Z h a0 "java/lang/String" "value" "[B" (.ref b) ∧ ((¬ ((255 : Int32) < x0 ∨ (255 : Int32) < x1 ∨ (255 : Int32) < x2) ∧ Fld Z h a0 "java/lang/String" "coder" "B" (.int 0) ∧ Arv Z h b kb .byte (3 : Int32) [(.int (bL x0)), (.int (bL x1)), (.int (bL x2))] (.int 0)) ∨ (((255 : Int32) < x0 ∨ (255 : Int32) < x1 ∨ (255 : Int32) < x2) ∧ Fld Z h a0 "java/lang/String" "coder" "B" (.int 1) ∧ Arv Z h b kb .byte (6 : Int32) [(.int (bA x0)), (.int (bB x0)), (.int (bA x1)), (.int (bB x1)), (.int (bA x2)), (.int (bB x2))] (.int 0)))
theorem rm2k3 (l : Launch) (Z : State) (a0' : Array Value) (hw : ∀ d ∈ tables_1, d.before a0' Z = true) (ws : List Jvm.Cond) (a0 : Addr) (a1 : Addr) (ka : ClassId) (x0 : Int32) (x1 : Int32) (x2 : Int32) (G1 : Int32) (w_sf : Value) (h0 : Heap) (n0 : Nat) (O : Old Z n0 h0) (W : Wd Z G1 w_sf) (pf0 : Exa Z h0 a0 "java/lang/String") (pf1 : Fld Z h0 a0 "java/lang/String" "value" "[B" .null) (pf2 : Fld Z h0 a0 "java/lang/String" "coder" "B" (.int 0)) (gp_a0 : n0 ≤ a0) (pf4 : Arv Z h0 a1 ka .char (3 : Int32) [(.int x0), (.int x1), (.int x2)] (.int 0)) (hc0 : nar .char x0 = x0) (hc1 : nar .char x1 = x1) (hc2 : nar .char x2 = x2) :
    MetFree l mq19 (head1 (Jvm.Cond.code mq19 jdk_42_method_3_code 2 none :: ws) ({ frames := 5, cells := 2, slots := 9, locals := 74 } : Room)) (fun a U => a = #[(.ref a0), (.ref a1)] ∧ Z.Warmed39 U.vm ∧ U.heap = h0) (fun _ _ _ _ _ => True) (fun _ U o U' => ∃ v L, o = .returned v ∧ Q2k3 Z a0 a1 ka x0 x1 x2 G1 w_sf h0 n0 v U'.heap L ∧ FrameEnd U o U' L ({ frames := 5, cells := 2, slots := 9, locals := 74 } : Room).cells ({ frames := 5, cells := 2, slots := 9, locals := 74 } : Room).slots) := by
  refine MetFree.of_bodySF (plainFor_of_name pn1) hisR ?_
  intro p e s m args below meth c s₁ Bd hml0 hP hK
  obtain ⟨rfl, hZ, hh⟩ := hP
  have hx := Bd.exec
  have hby := Bd.bytes
  have hml : c.maxLocals = 2 := hml0
  have hown : s.vm.findClass "java/lang/String" = some m.cls := findClass_of_methodNamed Bd.named
  have hnm := (name_of_methodNamed Bd.named Bd.method).1
  have hk := Bd.notSynchronized
  have X0 : Stand p l e ({ frames := 5, cells := 2, slots := 9, locals := 74 } : Room) s m #[(.ref a0), (.ref a1)] below meth c s₁ [] 0 0 := Stand.of_body Bd
  have hh2 := hh
  have e0 : s₁.heap = h0 := by rw [← hh, Bd.state]; rfl
  have N0 := Fr.nil n0
  show Gl p e below (Pos 2 9 (Q2k3 Z a0 a1 ka x0 x1 x2 G1 w_sf h0 n0) s) s₁ _
  refine Gl.cast (ef2k3 m a0 a1) ?_
  refine gb (mkF m 1 #[vr a0, vr a1] [(.ref a0)]) (fun _ k => XS.aloadN X0.here hx rfl (hb hby d2_0) rfl rfl k) ?_
  refine gb (mkF m 2 #[vr a0, vr a1] [(.ref a1), (.ref a0)]) (fun _ k => XS.aloadN X0.here hx rfl (hb hby d2_1) rfl rfl k) ?_
  refine gb (mkF m 3 #[vr a0, vr a1] [(.int 0), (.ref a1), (.ref a0)]) (fun _ k => XS.iconst X0.here hx rfl (hb hby d2_2) k) ?_
  refine gb (mkF m 4 #[vr a0, vr a1] [(.ref a1), (.int 0), (.ref a1), (.ref a0)]) (fun _ k => XS.aloadN X0.here hx rfl (hb hby d2_3) rfl rfl k) ?_
  obtain ⟨cl1, Ar1, qa1, Sa1, Na1, Ha1, Ga1⟩ := id pf4
  refine gb (mkF m 5 #[vr a0, vr a1] [(.int 3), (.int 0), (.ref a1), (.ref a0)]) (fun t k => X0.arraylength hx (by rw [e0]; exact Ar1.1) (State.isArrayOf_alike hZ.alike Ar1.2.1) (g := (mkF m 4 #[vr a0, vr a1] [(.ref a1), (.int 0), (.ref a1), (.ref a0)])) rfl rfl (hb hby d2_4) t (by rw [len_of Sa1 Na1]; exact k)) ?_
  refine gb (mkF m 6 #[vr a0, vr a1] [.null, (.int 3), (.int 0), (.ref a1), (.ref a0)]) (fun _ k => XS.aconstNull X0.here hx rfl (hb hby d2_5) k) ?_
  obtain ⟨_, _, ⟨T2, L2, k2, n2⟩, -, X2, ⟨Lc2, hQ2, l2, y2, z2⟩, st2⟩ := X0.specialBack hx (y := mq18) rfl hown (mvT hZ (hW hw 12 rfl)) (mvT hZ (hW hw 13 rfl)) (mvT hZ (hW hw 15 rfl)) (by decide) (backOf (W := 0) (rm3k3 l Z a0' hw [] a0 a1 ka x0 x1 x2 G1 w_sf h0 n0 O W pf0 pf1 pf2 gp_a0 pf4 hc0 hc1 hc2) hZ (hW hw 15 rfl) (hW hw 8 rfl) (by decide) (by decide)) (g := (mkF m 6 #[vr a0, vr a1] [.null, (.int 3), (.int 0), (.ref a1), (.ref a0)])) rfl (by rw [hml]; rfl) (Steps.refl _) (a := a0) (argsL := [(.ref a1), (.int 0), (.int 3), .null]) (rest := []) (lenOf pd248 rfl) rfl (Nat.le_of_eq rfl) (hb hby d2_6) (fun _ _ => ⟨rfl, e0, (by decide : 0 + 2 ≤ _), (by decide : 0 + 9 ≤ _)⟩)
  dsimp only [Pt.U, Pt.locs, Pt.cells, Pt.slots] at X2 l2 y2 z2 st2 hQ2
  subst l2 y2 z2
  obtain ⟨b_2, kb_2, rfl, N2q, Kc2, fc2_0, fc2_1⟩ := hQ2
  have N2 := Fr.app N0 N2q
  refine gb (mkF m 9 #[vr a0, vr a1] []) (fun _ k => st2.trans k) ?_
  have K3 := ((Keep.refl h0 [a0]).trans Kc2 (allS (Or.inl (List.mem_of_getElem? (i := 0) rfl)) all0))
  exact Gl.outV X2 hx hk Bd.returns (hb hby d2_9) ⟨b_2, kb_2, rfl, N2, K3, fc2_0, fc2_1⟩ (by decide) (by decide)
theorem ef3k4 (m : MethodId) (x0 : Addr) (x1 : Addr) (x2 : Int32) (x3 : Int32) : entryFrame m #[(.ref x0), (.ref x1), (.int x2), (.int x3), .null] 6 = mkF m 0 #[.val (.ref x0), .val (.ref x1), .val (.int x2), .val (.int x3), .val .null, .unset] [] := by first | (simp [entryFrame, mkF, argsToLocals, Value.category]; done) | rfl
def Q3k4 (Z : State) (a0 : Addr) (a1 : Addr) (ka : ClassId) (x0 : Int32) (x1 : Int32) (x2 : Int32) (x3 : Int32) (G1 : Int32) (w_sf : Value) (h0 : Heap) (n0 : Nat) (v : Option Value) (h : Heap) (L : List Loc) : Prop := ∃ (b : Addr), ∃ (kb : ClassId), v = none ∧ Fr n0 L ∧ Keep h0 h [a0] ∧ Fld Z h a0 "java/lang/String" "value" "[B" (.ref b) ∧ ((¬ ((255 : Int32) < x0 ∨ (255 : Int32) < x1 ∨ (255 : Int32) < x2 ∨ (255 : Int32) < x3) ∧ Fld Z h a0 "java/lang/String" "coder" "B" (.int 0) ∧ Arv Z h b kb .byte (4 : Int32) [(.int (bL x0)), (.int (bL x1)), (.int (bL x2)), (.int (bL x3))] (.int 0)) ∨ (((255 : Int32) < x0 ∨ (255 : Int32) < x1 ∨ (255 : Int32) < x2 ∨ (255 : Int32) < x3) ∧ Fld Z h a0 "java/lang/String" "coder" "B" (.int 1) ∧ Arv Z h b kb .byte (8 : Int32) [(.int (bA x0)), (.int (bB x0)), (.int (bA x1)), (.int (bB x1)), (.int (bA x2)), (.int (bB x2)), (.int (bA x3)), (.int (bB x3))] (.int 0)))
theorem rm3k4 (l : Launch) (Z : State) (a0' : Array Value) (hw : ∀ d ∈ tables_1, d.before a0' Z = true) (ws : List Jvm.Cond) (a0 : Addr) (a1 : Addr) (ka : ClassId) (x0 : Int32) (x1 : Int32) (x2 : Int32) (x3 : Int32) (G1 : Int32) (w_sf : Value) (h0 : Heap) (n0 : Nat) (O : Old Z n0 h0) (W : Wd Z G1 w_sf) (pf0 : Exa Z h0 a0 "java/lang/String") (pf1 : Fld Z h0 a0 "java/lang/String" "value" "[B" .null) (pf2 : Fld Z h0 a0 "java/lang/String" "coder" "B" (.int 0)) (gp_a0 : n0 ≤ a0) (pf4 : Arv Z h0 a1 ka .char (4 : Int32) [(.int x0), (.int x1), (.int x2), (.int x3)] (.int 0)) (hc0 : nar .char x0 = x0) (hc1 : nar .char x1 = x1) (hc2 : nar .char x2 = x2) (hc3 : nar .char x3 = x3) :
    MetFree l mq18 (head1 (Jvm.Cond.code mq18 jdk_42_method_149_code 6 none :: ws) ({ frames := 4, cells := 2, slots := 12, locals := 57 } : Room)) (fun a U => a = #[(.ref a0), (.ref a1), (.int 0), (.int 4), .null] ∧ Z.Warmed39 U.vm ∧ U.heap = h0) (fun _ _ _ _ _ => True) (fun _ U o U' => ∃ v L, o = .returned v ∧ Q3k4 Z a0 a1 ka x0 x1 x2 x3 G1 w_sf h0 n0 v U'.heap L ∧ FrameEnd U o U' L ({ frames := 4, cells := 2, slots := 12, locals := 57 } : Room).cells ({ frames := 4, cells := 2, slots := 12, locals := 57 } : Room).slots) := by
  refine MetFree.of_bodySF (plainFor_of_name pn1) hisR ?_
  intro p e s m args below meth c s₁ Bd hml0 hP hK
  obtain ⟨rfl, hZ, hh⟩ := hP
  have hx := Bd.exec
  have hby := Bd.bytes
  have hml : c.maxLocals = 6 := hml0
  have hown : s.vm.findClass "java/lang/String" = some m.cls := findClass_of_methodNamed Bd.named
  have hnm := (name_of_methodNamed Bd.named Bd.method).1
  have hk := Bd.notSynchronized
  have X0 : Stand p l e ({ frames := 4, cells := 2, slots := 12, locals := 57 } : Room) s m #[(.ref a0), (.ref a1), (.int 0), (.int 4), .null] below meth c s₁ [] 0 0 := Stand.of_body Bd
  have hh2 := hh
  have e0 : s₁.heap = h0 := by rw [← hh, Bd.state]; rfl
  have N0 := Fr.nil n0
  show Gl p e below (Pos 2 12 (Q3k4 Z a0 a1 ka x0 x1 x2 x3 G1 w_sf h0 n0) s) s₁ _
  refine Gl.cast (ef3k4 m a0 a1 (0 : Int32) (4 : Int32)) ?_
  refine gb (mkF m 1 #[vr a0, vr a1, vi 0, vi 4, .val .null, .unset] [(.ref a0)]) (fun _ k => XS.aloadN X0.here hx rfl (hb hby d3_0) rfl rfl k) ?_
  obtain ⟨T1, X1, e1, st1⟩ := initO X0 hx hZ hown (hW hw 16 rfl) (hW hw 17 rfl) (hW hw 18 rfl) e0 (g := (mkF m 1 #[vr a0, vr a1, vi 0, vi 4, .val .null, .unset] [(.ref a0)])) rfl (by rw [hml]; rfl) rfl (hb hby d3_1) (by decide) (W := 0) (Nat.le_of_eq rfl) (by decide)
  refine gb (mkF m 4 #[vr a0, vr a1, vi 0, vi 4, .val .null, .unset] []) st1 ?_
  refine gb (mkF m 5 #[vr a0, vr a1, vi 0, vi 4, .val .null, .unset] [(.int 4)]) (fun _ k => XS.iloadN X1.here hx rfl (hb hby d3_4) rfl k) ?_
  refine gb (mkF m 27 #[vr a0, vr a1, vi 0, vi 4, .val .null, .unset] []) (fun _ k => XS.ifYes X1.here hx rfl (pc0 := 5) (pc' := 27) rfl (hb hby d3_5) rfl ((if0 _ _).trans (feq (by decide : ¬ ((4 : Int32) = (0 : Int32)))).2) (by decide) (by decide) k) ?_
  obtain ⟨T2, X2, e2, st2⟩ := getS2 X1 hx hZ hown (host := "") (Or.inl (hW hw 41 rfl)) Via.refl e1 (Sta.ext O.2 W.1) (g := (mkF m 27 #[vr a0, vr a1, vi 0, vi 4, .val .null, .unset] [])) rfl (hb hby d3_27)
  refine gb (mkF m 30 #[vr a0, vr a1, vi 0, vi 4, .val .null, .unset] [(.int G1)]) st2 ?_
  refine gb (mkF m 33 #[vr a0, vr a1, vi 0, vi 4, .val .null, .unset] []) (fun _ k => XS.ifNo X2.here hx rfl (hb hby d3_30) rfl ((if0 _ _).trans (feq W.2.1).1) k) ?_
  refine gb (mkF m 34 #[vr a0, vr a1, vi 0, vi 4, .val .null, .unset] [(.ref a1)]) (fun _ k => XS.aloadN X2.here hx rfl (hb hby d3_33) rfl rfl k) ?_
  refine gb (mkF m 35 #[vr a0, vr a1, vi 0, vi 4, .val .null, .unset] [(.int 0), (.ref a1)]) (fun _ k => XS.iloadN X2.here hx rfl (hb hby d3_34) rfl k) ?_
  refine gb (mkF m 36 #[vr a0, vr a1, vi 0, vi 4, .val .null, .unset] [(.int 4), (.int 0), (.ref a1)]) (fun _ k => XS.iloadN X2.here hx rfl (hb hby d3_35) rfl k) ?_
  obtain ⟨_, _, ⟨T3, L3, k3, n3⟩, -, X3, ⟨Lc3, hQ3, l3, y3, z3⟩, st3⟩ := callS X2 hx (y := mq16) hown (mvT hZ (hW hw 45 rfl)) (mvT hZ (hW hw 46 rfl)) (mvT hZ (hW hw 47 rfl)) (mvT hZ (hW hw 48 rfl)) (by decide) (backOf (W := 0) (rm94 l Z a0' hw [] a1 ka x0 x1 x2 x3 G1 w_sf h0 n0 O W pf4 hc0 hc1 hc2 hc3) hZ (hW hw 48 rfl) (hW hw 47 rfl) (by decide) (by decide)) (g := (mkF m 36 #[vr a0, vr a1, vi 0, vi 4, .val .null, .unset] [(.int 4), (.int 0), (.ref a1)])) rfl (by rw [hml]; rfl) (argsL := [(.ref a1), (.int 0), (.int 4)]) (rest := []) (lenOf pd217 rfl) rfl (Nat.le_of_eq rfl) (hb hby d3_36) (fun _ _ => ⟨rfl, e2, (by decide : 0 + 2 ≤ _), (by decide : 0 + 12 ≤ _)⟩)
  dsimp only [Pt.U, Pt.locs, Pt.cells, Pt.slots] at X3 l3 y3 z3 st3 hQ3
  subst l3 y3 z3
  obtain ⟨b_3, kb_3, rfl, N3q, Kc3, fc3_0, fc3_1⟩ := hQ3
  have N3 := Fr.app N0 N3q
  have nb4 : a0 ≠ b_3 := Nat.ne_of_lt (Nat.lt_of_lt_of_le pf0.lt fc3_0)
  have nb5 : a1 ≠ b_3 := Nat.ne_of_lt (Nat.lt_of_lt_of_le pf4.lt fc3_0)
  refine gb (mkF m 39 #[vr a0, vr a1, vi 0, vi 4, .val .null, .unset] [(.ref b_3)]) st3 ?_
  rcases fc3_1 with ⟨hN, hV⟩ | ⟨hN, hV⟩
  · refine gb (mkF m 41 #[vr a0, vr a1, vi 0, vi 4, .val .null, vr b_3] []) (fun _ k => XS.astore X3.here hx rfl (hb hby d3_39) rfl rfl (l' := #[vr a0, vr a1, vi 0, vi 4, .val .null, vr b_3]) rfl k) ?_
    refine gb (mkF m 42 #[vr a0, vr a1, vi 0, vi 4, .val .null, vr b_3] [(.ref a0)]) (fun _ k => XS.aloadN X3.here hx rfl (hb hby d3_41) rfl rfl k) ?_
    refine gb (mkF m 44 #[vr a0, vr a1, vi 0, vi 4, .val .null, vr b_3] [(.ref b_3), (.ref a0)]) (fun _ k => XS.aload X3.here hx rfl (hb hby d3_42) rfl rfl k) ?_
    refine gb (mkF m 45 #[vr a0, vr a1, vi 0, vi 4, .val .null, vr b_3] [(.int 4), (.ref b_3), (.ref a0)]) (fun _ k => XS.iloadN X3.here hx rfl (hb hby d3_44) rfl k) ?_
    have O7 := (O.keep Kc3 all0)
    obtain ⟨_, _, ⟨T6, L6, k6, n6⟩, -, X6, ⟨Lc6, hQ6, l6, y6, z6⟩, st6⟩ := callS X3 hx (y := mq17) hown (mvT hZ (hW hw 52 rfl)) (mvT hZ (hW hw 53 rfl)) (mvT hZ (hW hw 47 rfl)) (mvT hZ (hW hw 54 rfl)) (by decide) (backOf (W := 1) (rm114_4 l Z a0' hw [] b_3 kb_3 [(.int (bL x0)), (.int (bL x1)), (.int (bL x2)), (.int (bL x3))] G1 w_sf T3.heap n0 O7 W hV) hZ (hW hw 54 rfl) (hW hw 47 rfl) (by decide) (by decide)) (g := (mkF m 45 #[vr a0, vr a1, vi 0, vi 4, .val .null, vr b_3] [(.int 4), (.ref b_3), (.ref a0)])) rfl (by rw [hml]; rfl) (argsL := [(.ref b_3), (.int 4)]) (rest := [(.ref a0)]) (lenOf pd265 rfl) rfl (Nat.le_of_eq rfl) (hb hby d3_45) (fun _ _ => ⟨rfl, rfl, (by decide : 2 + 0 ≤ _), (by decide : 12 + 0 ≤ _)⟩)
    dsimp only [Pt.U, Pt.locs, Pt.cells, Pt.slots] at X6 l6 y6 z6 st6 hQ6
    subst l6 y6 z6
    obtain ⟨rfl, N6q, e6⟩ := hQ6
    have N6 := Fr.app N3 N6q
    refine gb (mkF m 48 #[vr a0, vr a1, vi 0, vi 4, .val .null, vr b_3] [(.int 0), (.ref a0)]) st6 ?_
    have f8 := (Exa.keep pf0 Kc3)
    have f9 := (Fld.keep pf2 Kc3 nin0)
    obtain ⟨T10, h10, X10, e10, W10, st10⟩ := putFN X6 hx hZ hown (hW hw 26 rfl) Via.refl e6 f9 f8 (Or.inr ⟨(hW hw 22 rfl), rfl, hnm⟩) (hW hw 7 rfl) (ty := .byte) (v' := (.int ((0 : Int32).toInt8.toInt32))) (by decide) rfl (fits_nar_byte _) (g := (mkF m 48 #[vr a0, vr a1, vi 0, vi 4, .val .null, vr b_3] [(.int 0), (.ref a0)])) rfl rfl (hb hby d3_48)
    have N10 := Fr.snoc X10 N6 gp_a0
    have Fw10 := Fld.same W10 f9
    refine gb (mkF m 51 #[vr a0, vr a1, vi 0, vi 4, .val .null, vr b_3] []) st10 ?_
    refine gb (mkF m 52 #[vr a0, vr a1, vi 0, vi 4, .val .null, vr b_3] [(.ref a0)]) (fun _ k => XS.aloadN X10.here hx rfl (hb hby d3_51) rfl rfl k) ?_
    refine gb (mkF m 54 #[vr a0, vr a1, vi 0, vi 4, .val .null, vr b_3] [(.ref b_3), (.ref a0)]) (fun _ k => XS.aload X10.here hx rfl (hb hby d3_52) rfl rfl k) ?_
    have f11 := (Exa.wr W10 f8)
    have f12 := (Fld.other W10 (Fld.keep pf1 Kc3 nin0) (Or.inr (slot_ne (Or.inr (hW hw 21 rfl)) (Or.inr (hW hw 22 rfl)) (by decide) (t := (.array .byte)) (t' := .byte) (by decide) (by decide))))
    obtain ⟨T13, h13, X13, e13, W13, st13⟩ := putF X10 hx hZ hown (host := "") (Or.inl (hW hw 25 rfl)) Via.refl e10 f12 f11 (Or.inr ⟨(hW hw 21 rfl), rfl, hnm⟩) (hW hw 7 rfl) (ty := (.array .byte)) (by decide) rfl rfl (g := (mkF m 54 #[vr a0, vr a1, vi 0, vi 4, .val .null, vr b_3] [(.ref b_3), (.ref a0)])) rfl rfl (hb hby d3_54)
    have N13 := Fr.snoc X13 N10 gp_a0
    have Fw13 := Fld.same W13 f12
    refine gb (mkF m 57 #[vr a0, vr a1, vi 0, vi 4, .val .null, vr b_3] []) st13 ?_
    have K14 := ((((Keep.refl h0 [a0]).trans Kc3 all0).wr W10 (Or.inl (List.mem_of_getElem? (i := 0) rfl))).wr W13 (Or.inl (List.mem_of_getElem? (i := 0) rfl)))
    have f15 := (Arv.other (Arv.other hV W10 (Ne.symm nb4)) W13 (Ne.symm nb4))
    have f16 := (Fld.other W13 Fw10 (Or.inr (slot_ne (Or.inr (hW hw 22 rfl)) (Or.inr (hW hw 21 rfl)) (by decide) (t := .byte) (t' := (.array .byte)) (by decide) (by decide))))
    exact Gl.outV X13 hx hk Bd.returns (hb hby d3_57) (Eq.mpr (congrArg (fun hh => Q3k4 Z a0 a1 ka x0 x1 x2 x3 G1 w_sf h0 n0 _ hh _) e13) (show Q3k4 Z a0 a1 ka x0 x1 x2 x3 G1 w_sf h0 n0 _ h13 _ from ⟨b_3, kb_3, rfl, N13, K14, Fw13, (Or.inl ⟨hN, (castF (congrArg Value.int (by decide : ((0 : Int32).toInt8.toInt32) = (0 : Int32))) f16), f15⟩)⟩)) (by decide) (by decide)
  · refine gb (mkF m 41 #[vr a0, vr a1, vi 0, vi 4, .val .null, vr b_3] []) (fun _ k => XS.astore X3.here hx rfl (hb hby d3_39) rfl rfl (l' := #[vr a0, vr a1, vi 0, vi 4, .val .null, vr b_3]) rfl k) ?_
    refine gb (mkF m 42 #[vr a0, vr a1, vi 0, vi 4, .val .null, vr b_3] [(.ref a0)]) (fun _ k => XS.aloadN X3.here hx rfl (hb hby d3_41) rfl rfl k) ?_
    refine gb (mkF m 44 #[vr a0, vr a1, vi 0, vi 4, .val .null, vr b_3] [(.ref b_3), (.ref a0)]) (fun _ k => XS.aload X3.here hx rfl (hb hby d3_42) rfl rfl k) ?_
    refine gb (mkF m 45 #[vr a0, vr a1, vi 0, vi 4, .val .null, vr b_3] [(.int 4), (.ref b_3), (.ref a0)]) (fun _ k => XS.iloadN X3.here hx rfl (hb hby d3_44) rfl k) ?_
    have O18 := (O.keep Kc3 all0)
    obtain ⟨_, _, ⟨T17, L17, k17, n17⟩, -, X17, ⟨Lc17, hQ17, l17, y17, z17⟩, st17⟩ := callS X3 hx (y := mq17) hown (mvT hZ (hW hw 52 rfl)) (mvT hZ (hW hw 53 rfl)) (mvT hZ (hW hw 47 rfl)) (mvT hZ (hW hw 54 rfl)) (by decide) (backOf (W := 1) (rm114_8 l Z a0' hw [] b_3 kb_3 [(.int (bA x0)), (.int (bB x0)), (.int (bA x1)), (.int (bB x1)), (.int (bA x2)), (.int (bB x2)), (.int (bA x3)), (.int (bB x3))] G1 w_sf T3.heap n0 O18 W hV) hZ (hW hw 54 rfl) (hW hw 47 rfl) (by decide) (by decide)) (g := (mkF m 45 #[vr a0, vr a1, vi 0, vi 4, .val .null, vr b_3] [(.int 4), (.ref b_3), (.ref a0)])) rfl (by rw [hml]; rfl) (argsL := [(.ref b_3), (.int 4)]) (rest := [(.ref a0)]) (lenOf pd265 rfl) rfl (Nat.le_of_eq rfl) (hb hby d3_45) (fun _ _ => ⟨rfl, rfl, (by decide : 2 + 0 ≤ _), (by decide : 12 + 0 ≤ _)⟩)
    dsimp only [Pt.U, Pt.locs, Pt.cells, Pt.slots] at X17 l17 y17 z17 st17 hQ17
    subst l17 y17 z17
    obtain ⟨rfl, N17q, e17⟩ := hQ17
    have N17 := Fr.app N3 N17q
    refine gb (mkF m 48 #[vr a0, vr a1, vi 0, vi 4, .val .null, vr b_3] [(.int 1), (.ref a0)]) st17 ?_
    have f19 := (Exa.keep pf0 Kc3)
    have f20 := (Fld.keep pf2 Kc3 nin0)
    obtain ⟨T21, h21, X21, e21, W21, st21⟩ := putFN X17 hx hZ hown (hW hw 26 rfl) Via.refl e17 f20 f19 (Or.inr ⟨(hW hw 22 rfl), rfl, hnm⟩) (hW hw 7 rfl) (ty := .byte) (v' := (.int ((1 : Int32).toInt8.toInt32))) (by decide) rfl (fits_nar_byte _) (g := (mkF m 48 #[vr a0, vr a1, vi 0, vi 4, .val .null, vr b_3] [(.int 1), (.ref a0)])) rfl rfl (hb hby d3_48)
    have N21 := Fr.snoc X21 N17 gp_a0
    have Fw21 := Fld.same W21 f20
    refine gb (mkF m 51 #[vr a0, vr a1, vi 0, vi 4, .val .null, vr b_3] []) st21 ?_
    refine gb (mkF m 52 #[vr a0, vr a1, vi 0, vi 4, .val .null, vr b_3] [(.ref a0)]) (fun _ k => XS.aloadN X21.here hx rfl (hb hby d3_51) rfl rfl k) ?_
    refine gb (mkF m 54 #[vr a0, vr a1, vi 0, vi 4, .val .null, vr b_3] [(.ref b_3), (.ref a0)]) (fun _ k => XS.aload X21.here hx rfl (hb hby d3_52) rfl rfl k) ?_
    have f22 := (Exa.wr W21 f19)
    have f23 := (Fld.other W21 (Fld.keep pf1 Kc3 nin0) (Or.inr (slot_ne (Or.inr (hW hw 21 rfl)) (Or.inr (hW hw 22 rfl)) (by decide) (t := (.array .byte)) (t' := .byte) (by decide) (by decide))))
    obtain ⟨T24, h24, X24, e24, W24, st24⟩ := putF X21 hx hZ hown (host := "") (Or.inl (hW hw 25 rfl)) Via.refl e21 f23 f22 (Or.inr ⟨(hW hw 21 rfl), rfl, hnm⟩) (hW hw 7 rfl) (ty := (.array .byte)) (by decide) rfl rfl (g := (mkF m 54 #[vr a0, vr a1, vi 0, vi 4, .val .null, vr b_3] [(.ref b_3), (.ref a0)])) rfl rfl (hb hby d3_54)
    have N24 := Fr.snoc X24 N21 gp_a0
    have Fw24 := Fld.same W24 f23
    refine gb (mkF m 57 #[vr a0, vr a1, vi 0, vi 4, .val .null, vr b_3] []) st24 ?_
    have K25 := ((((Keep.refl h0 [a0]).trans Kc3 all0).wr W21 (Or.inl (List.mem_of_getElem? (i := 0) rfl))).wr W24 (Or.inl (List.mem_of_getElem? (i := 0) rfl)))
    have f26 := (Arv.other (Arv.other hV W21 (Ne.symm nb4)) W24 (Ne.symm nb4))
    have f27 := (Fld.other W24 Fw21 (Or.inr (slot_ne (Or.inr (hW hw 22 rfl)) (Or.inr (hW hw 21 rfl)) (by decide) (t := .byte) (t' := (.array .byte)) (by decide) (by decide))))
    exact Gl.outV X24 hx hk Bd.returns (hb hby d3_57) (Eq.mpr (congrArg (fun hh => Q3k4 Z a0 a1 ka x0 x1 x2 x3 G1 w_sf h0 n0 _ hh _) e24) (show Q3k4 Z a0 a1 ka x0 x1 x2 x3 G1 w_sf h0 n0 _ h24 _ from ⟨b_3, kb_3, rfl, N24, K25, Fw24, (Or.inr ⟨hN, (castF (congrArg Value.int (by decide : ((1 : Int32).toInt8.toInt32) = (1 : Int32))) f27), f26⟩)⟩)) (by decide) (by decide)
theorem ef2k4 (m : MethodId) (x0 : Addr) (x1 : Addr) : entryFrame m #[(.ref x0), (.ref x1)] 2 = mkF m 0 #[.val (.ref x0), .val (.ref x1)] [] := by first | (simp [entryFrame, mkF, argsToLocals, Value.category]; done) | rfl
def Q2k4 (Z : State) (a0 : Addr) (a1 : Addr) (ka : ClassId) (x0 : Int32) (x1 : Int32) (x2 : Int32) (x3 : Int32) (G1 : Int32) (w_sf : Value) (h0 : Heap) (n0 : Nat) (v : Option Value) (h : Heap) (L : List Loc) : Prop := ∃ (b : Addr), ∃ (kb : ClassId), v = none ∧ Fr n0 L ∧ Keep h0 h [a0] ∧ Fld Z h a0 "java/lang/String" "value" "[B" (.ref b) ∧ ((¬ ((255 : Int32) < x0 ∨ (255 : Int32) < x1 ∨ (255 : Int32) < x2 ∨ (255 : Int32) < x3) ∧ Fld Z h a0 "java/lang/String" "coder" "B" (.int 0) ∧ Arv Z h b kb .byte (4 : Int32) [(.int (bL x0)), (.int (bL x1)), (.int (bL x2)), (.int (bL x3))] (.int 0)) ∨ (((255 : Int32) < x0 ∨ (255 : Int32) < x1 ∨ (255 : Int32) < x2 ∨ (255 : Int32) < x3) ∧ Fld Z h a0 "java/lang/String" "coder" "B" (.int 1) ∧ Arv Z h b kb .byte (8 : Int32) [(.int (bA x0)), (.int (bB x0)), (.int (bA x1)), (.int (bB x1)), (.int (bA x2)), (.int (bB x2)), (.int (bA x3)), (.int (bB x3))] (.int 0)))
theorem rm2k4 (l : Launch) (Z : State) (a0' : Array Value) (hw : ∀ d ∈ tables_1, d.before a0' Z = true) (ws : List Jvm.Cond) (a0 : Addr) (a1 : Addr) (ka : ClassId) (x0 : Int32) (x1 : Int32) (x2 : Int32) (x3 : Int32) (G1 : Int32) (w_sf : Value) (h0 : Heap) (n0 : Nat) (O : Old Z n0 h0) (W : Wd Z G1 w_sf) (pf0 : Exa Z h0 a0 "java/lang/String") (pf1 : Fld Z h0 a0 "java/lang/String" "value" "[B" .null) (pf2 : Fld Z h0 a0 "java/lang/String" "coder" "B" (.int 0)) (gp_a0 : n0 ≤ a0) (pf4 : Arv Z h0 a1 ka .char (4 : Int32) [(.int x0), (.int x1), (.int x2), (.int x3)] (.int 0)) (hc0 : nar .char x0 = x0) (hc1 : nar .char x1 = x1) (hc2 : nar .char x2 = x2) (hc3 : nar .char x3 = x3) :
    MetFree l mq19 (head1 (Jvm.Cond.code mq19 jdk_42_method_3_code 2 none :: ws) ({ frames := 5, cells := 2, slots := 12, locals := 74 } : Room)) (fun a U => a = #[(.ref a0), (.ref a1)] ∧ Z.Warmed39 U.vm ∧ U.heap = h0) (fun _ _ _ _ _ => True) (fun _ U o U' => ∃ v L, o = .returned v ∧ Q2k4 Z a0 a1 ka x0 x1 x2 x3 G1 w_sf h0 n0 v U'.heap L ∧ FrameEnd U o U' L ({ frames := 5, cells := 2, slots := 12, locals := 74 } : Room).cells ({ frames := 5, cells := 2, slots := 12, locals := 74 } : Room).slots) := by
  refine MetFree.of_bodySF (plainFor_of_name pn1) hisR ?_
  intro p e s m args below meth c s₁ Bd hml0 hP hK
  obtain ⟨rfl, hZ, hh⟩ := hP
  have hx := Bd.exec
  have hby := Bd.bytes
  have hml : c.maxLocals = 2 := hml0
  have hown : s.vm.findClass "java/lang/String" = some m.cls := findClass_of_methodNamed Bd.named
  have hnm := (name_of_methodNamed Bd.named Bd.method).1
  have hk := Bd.notSynchronized
  have X0 : Stand p l e ({ frames := 5, cells := 2, slots := 12, locals := 74 } : Room) s m #[(.ref a0), (.ref a1)] below meth c s₁ [] 0 0 := Stand.of_body Bd
  have hh2 := hh
  have e0 : s₁.heap = h0 := by rw [← hh, Bd.state]; rfl
  have N0 := Fr.nil n0
  show Gl p e below (Pos 2 12 (Q2k4 Z a0 a1 ka x0 x1 x2 x3 G1 w_sf h0 n0) s) s₁ _
  refine Gl.cast (ef2k4 m a0 a1) ?_
  refine gb (mkF m 1 #[vr a0, vr a1] [(.ref a0)]) (fun _ k => XS.aloadN X0.here hx rfl (hb hby d2_0) rfl rfl k) ?_
  refine gb (mkF m 2 #[vr a0, vr a1] [(.ref a1), (.ref a0)]) (fun _ k => XS.aloadN X0.here hx rfl (hb hby d2_1) rfl rfl k) ?_
  refine gb (mkF m 3 #[vr a0, vr a1] [(.int 0), (.ref a1), (.ref a0)]) (fun _ k => XS.iconst X0.here hx rfl (hb hby d2_2) k) ?_
  refine gb (mkF m 4 #[vr a0, vr a1] [(.ref a1), (.int 0), (.ref a1), (.ref a0)]) (fun _ k => XS.aloadN X0.here hx rfl (hb hby d2_3) rfl rfl k) ?_
  obtain ⟨cl1, Ar1, qa1, Sa1, Na1, Ha1, Ga1⟩ := id pf4
  refine gb (mkF m 5 #[vr a0, vr a1] [(.int 4), (.int 0), (.ref a1), (.ref a0)]) (fun t k => X0.arraylength hx (by rw [e0]; exact Ar1.1) (State.isArrayOf_alike hZ.alike Ar1.2.1) (g := (mkF m 4 #[vr a0, vr a1] [(.ref a1), (.int 0), (.ref a1), (.ref a0)])) rfl rfl (hb hby d2_4) t (by rw [len_of Sa1 Na1]; exact k)) ?_
  refine gb (mkF m 6 #[vr a0, vr a1] [.null, (.int 4), (.int 0), (.ref a1), (.ref a0)]) (fun _ k => XS.aconstNull X0.here hx rfl (hb hby d2_5) k) ?_
  obtain ⟨_, _, ⟨T2, L2, k2, n2⟩, -, X2, ⟨Lc2, hQ2, l2, y2, z2⟩, st2⟩ := X0.specialBack hx (y := mq18) rfl hown (mvT hZ (hW hw 12 rfl)) (mvT hZ (hW hw 13 rfl)) (mvT hZ (hW hw 15 rfl)) (by decide) (backOf (W := 0) (rm3k4 l Z a0' hw [] a0 a1 ka x0 x1 x2 x3 G1 w_sf h0 n0 O W pf0 pf1 pf2 gp_a0 pf4 hc0 hc1 hc2 hc3) hZ (hW hw 15 rfl) (hW hw 8 rfl) (by decide) (by decide)) (g := (mkF m 6 #[vr a0, vr a1] [.null, (.int 4), (.int 0), (.ref a1), (.ref a0)])) rfl (by rw [hml]; rfl) (Steps.refl _) (a := a0) (argsL := [(.ref a1), (.int 0), (.int 4), .null]) (rest := []) (lenOf pd248 rfl) rfl (Nat.le_of_eq rfl) (hb hby d2_6) (fun _ _ => ⟨rfl, e0, (by decide : 0 + 2 ≤ _), (by decide : 0 + 12 ≤ _)⟩)
  dsimp only [Pt.U, Pt.locs, Pt.cells, Pt.slots] at X2 l2 y2 z2 st2 hQ2
  subst l2 y2 z2
  obtain ⟨b_2, kb_2, rfl, N2q, Kc2, fc2_0, fc2_1⟩ := hQ2
  have N2 := Fr.app N0 N2q
  refine gb (mkF m 9 #[vr a0, vr a1] []) (fun _ k => st2.trans k) ?_
  have K3 := ((Keep.refl h0 [a0]).trans Kc2 (allS (Or.inl (List.mem_of_getElem? (i := 0) rfl)) all0))
  exact Gl.outV X2 hx hk Bd.returns (hb hby d2_9) ⟨b_2, kb_2, rfl, N2, K3, fc2_0, fc2_1⟩ (by decide) (by decide)
theorem d5_0 : decode prog_66_method_6_code 0 = .ok (.iconst 0, 1) := by decide +kernel
theorem d5_1 : decode prog_66_method_6_code 1 = .ok (.istore_n 1, 1) := by decide +kernel
theorem d5_2 : decode prog_66_method_6_code 2 = .ok (.iload_n 1, 1) := by decide +kernel
theorem d5_3 : decode prog_66_method_6_code 3 = .ok (.aload_n 0, 1) := by decide +kernel
theorem d5_4 : decode prog_66_method_6_code 4 = .ok (.invokevirtual 168, 3) := by decide +kernel
theorem d5_7 : decode prog_66_method_6_code 7 = .ok (.if_icmp .ge 29, 3) := by decide +kernel
theorem d5_36 : decode prog_66_method_6_code 36 = .ok (.iconst 1, 1) := by decide +kernel
theorem d5_37 : decode prog_66_method_6_code 37 = .ok (.ireturn, 1) := by decide +kernel
theorem pn4 : plainName "com/example/gatewarden/gatewarden/formats/PhysicalLines" = true := by first | (simp [plainName, overriddenIn]; done) | decide +kernel
theorem pd274 : parseMethodDescriptor "()I" = some ⟨[], some .int⟩ := by decide +kernel
theorem ef50A (m : MethodId) (x0 : Addr) : entryFrame m #[(.ref x0)] 3 = mkF m 0 #[.val (.ref x0), .unset, .unset] [] := by first | (simp [entryFrame, mkF, argsToLocals, Value.category]; done) | rfl
def fn50A (G1 : Int32) (w_sf : Value) : Int32 := (1 : Int32)
def Q50A (Z : State) (a0 : Addr) (b : Addr) (kb : ClassId) (G1 : Int32) (w_sf : Value) (h0 : Heap) (n0 : Nat) (v : Option Value) (h : Heap) (L : List Loc) : Prop := v = some (.int (fn50A  G1 w_sf)) ∧ Fr n0 L ∧ h = h0
theorem rm50A (l : Launch) (Z : State) (a0' : Array Value) (hw : ∀ d ∈ tables_1, d.before a0' Z = true) (ws : List Jvm.Cond) (a0 : Addr) (b : Addr) (kb : ClassId) (G1 : Int32) (w_sf : Value) (h0 : Heap) (n0 : Nat) (O : Old Z n0 h0) (W : Wd Z G1 w_sf) (pf0 : Exa Z h0 a0 "java/lang/String") (pf1 : Fld Z h0 a0 "java/lang/String" "value" "[B" (.ref b)) (pf2 : Fld Z h0 a0 "java/lang/String" "coder" "B" (.int 0)) (pf3 : Arv Z h0 b kb .byte (0 : Int32) [] (.int 0)) :
    MetFree l mq20 (head1 (Jvm.Cond.code mq20 prog_66_method_6_code 3 (some .boolean) :: ws) ({ frames := 2, cells := 0, slots := 0, locals := 26 } : Room)) (fun a U => a = #[(.ref a0)] ∧ Z.Warmed39 U.vm ∧ U.heap = h0) (fun _ _ _ _ _ => True) (fun _ U o U' => ∃ v L, o = .returned v ∧ Q50A Z a0 b kb G1 w_sf h0 n0 v U'.heap L ∧ FrameEnd U o U' L ({ frames := 2, cells := 0, slots := 0, locals := 26 } : Room).cells ({ frames := 2, cells := 0, slots := 0, locals := 26 } : Room).slots) := by
  refine MetFree.of_bodySF (plainFor_of_name pn4) hisR ?_
  intro p e s m args below meth c s₁ Bd hml0 hP hK
  obtain ⟨rfl, hZ, hh⟩ := hP
  have hx := Bd.exec
  have hby := Bd.bytes
  have hml : c.maxLocals = 3 := hml0
  have hown : s.vm.findClass "com/example/gatewarden/gatewarden/formats/PhysicalLines" = some m.cls := findClass_of_methodNamed Bd.named
  have hnm := (name_of_methodNamed Bd.named Bd.method).1
  have hk := Bd.notSynchronized
  have X0 : Stand p l e ({ frames := 2, cells := 0, slots := 0, locals := 26 } : Room) s m #[(.ref a0)] below meth c s₁ [] 0 0 := Stand.of_body Bd
  have hh2 := hh
  have e0 : s₁.heap = h0 := by rw [← hh, Bd.state]; rfl
  have N0 := Fr.nil n0
  show Gl p e below (Pos 0 0 (Q50A Z a0 b kb G1 w_sf h0 n0) s) s₁ _
  refine Gl.cast (ef50A m a0) ?_
  refine gb (mkF m 1 #[vr a0, .unset, .unset] [(.int 0)]) (fun _ k => XS.iconst X0.here hx rfl (hb hby d5_0) k) ?_
  refine gb (mkF m 2 #[vr a0, vi 0, .unset] []) (fun _ k => XS.istoreN X0.here hx rfl (hb hby d5_1) rfl (l' := #[vr a0, vi 0, .unset]) rfl k) ?_
  refine gb (mkF m 3 #[vr a0, vi 0, .unset] [(.int 0)]) (fun _ k => XS.iloadN X0.here hx rfl (hb hby d5_2) rfl k) ?_
  refine gb (mkF m 4 #[vr a0, vi 0, .unset] [(.ref a0), (.int 0)]) (fun _ k => XS.aloadN X0.here hx rfl (hb hby d5_3) rfl rfl k) ?_
  obtain ⟨cq1, kq1, q1a, q1b, q1c⟩ := isOf hZ e0 pf0
  obtain ⟨_, _, ⟨T1, L1, k1, n1⟩, -, X1, ⟨Lc1, hQ1, l1, y1, z1⟩, st1⟩ := X0.virtualBack hx (y := mq9) (z := mq9) hown (mvT hZ (hW hw 31 rfl)) (mvT hZ (hW hw 32 rfl)) (notFace_of_selects (args := #[]) (mvT hZ (hW hw 34 rfl))) (mvT hZ (hW hw 34 rfl)) (mvT hZ (hW hw 33 rfl)) (by decide) (backOf (W := 1) (rm6 l Z a0' hw [] a0 b (0 : Int32) kb [] (0 : Int32) G1 w_sf h0 n0 O W pf0 pf1 pf2 pf3) hZ (hW hw 35 rfl) (hW hw 8 rfl) (by decide) (by decide)) q1a q1c (g := (mkF m 4 #[vr a0, vi 0, .unset] [(.ref a0), (.int 0)])) rfl (by rw [hml]; rfl) (Steps.refl _) (argsL := []) (rest := [(.int 0)]) (lenOf pd274 rfl) rfl (Nat.le_of_eq rfl) (hb hby d5_4) (fun _ _ => ⟨rfl, e0, (by decide : 0 + 0 ≤ _), (by decide : 0 + 0 ≤ _)⟩)
  dsimp only [Pt.U, Pt.locs, Pt.cells, Pt.slots] at X1 l1 y1 z1 st1 hQ1
  subst l1 y1 z1
  obtain ⟨rfl, N1q, e1⟩ := hQ1
  have N1 := Fr.app N0 N1q
  refine gb (mkF m 7 #[vr a0, vi 0, .unset] [(.int ((0 : Int32) >>> (((0 : Int32).toInt8.toInt32) &&& 31))), (.int 0)]) (fun _ k => st1.trans k) ?_
  refine gb (mkF m 36 #[vr a0, vi 0, .unset] []) (fun _ k => XS.icmpYes X1.here hx rfl (pc0 := 7) (pc' := 36) rfl (hb hby d5_7) rfl (flt (by decide : ¬ ((0 : Int32) < ((0 : Int32) >>> (((0 : Int32).toInt8.toInt32) &&& 31))))).2.1 (by decide) (by decide) k) ?_
  refine gb (mkF m 37 #[vr a0, vi 0, .unset] [(.int 1)]) (fun _ k => XS.iconst X1.here hx rfl (hb hby d5_36) k) ?_
  exact Gl.outN X1 hx hk (t := .boolean) Bd.returns (by simp) (hb hby d5_37) ⟨(congrArg (fun z => some (Value.int z)) (show nar .boolean (1 : Int32) = fn50A  G1 w_sf by unfold fn50A; try rfl)), N1, e1⟩ (by decide) (by decide)
theorem d5_10 : decode prog_66_method_6_code 10 = .ok (.aload_n 0, 1) := by decide +kernel
theorem d5_11 : decode prog_66_method_6_code 11 = .ok (.iload_n 1, 1) := by decide +kernel
theorem d5_12 : decode prog_66_method_6_code 12 = .ok (.invokevirtual 169, 3) := by decide +kernel
theorem d5_15 : decode prog_66_method_6_code 15 = .ok (.istore_n 2, 1) := by decide +kernel
theorem d5_16 : decode prog_66_method_6_code 16 = .ok (.iload_n 2, 1) := by decide +kernel
theorem d5_17 : decode prog_66_method_6_code 17 = .ok (.bipush 32, 2) := by decide +kernel
theorem d5_19 : decode prog_66_method_6_code 19 = .ok (.if_icmp .eq 11, 3) := by decide +kernel
theorem d5_22 : decode prog_66_method_6_code 22 = .ok (.iload_n 2, 1) := by decide +kernel
theorem d5_23 : decode prog_66_method_6_code 23 = .ok (.bipush 9, 2) := by decide +kernel
theorem d5_25 : decode prog_66_method_6_code 25 = .ok (.if_icmp .eq 5, 3) := by decide +kernel
theorem d5_28 : decode prog_66_method_6_code 28 = .ok (.iconst 0, 1) := by decide +kernel
theorem d5_29 : decode prog_66_method_6_code 29 = .ok (.ireturn, 1) := by decide +kernel
theorem d5_30 : decode prog_66_method_6_code 30 = .ok (.iinc 1 1, 3) := by decide +kernel
theorem d5_33 : decode prog_66_method_6_code 33 = .ok (.goto (-31), 3) := by decide +kernel
theorem pd289 : parseMethodDescriptor "(I)C" = some ⟨[.int], some .char⟩ := by decide +kernel
theorem ef51A (m : MethodId) (x0 : Addr) : entryFrame m #[(.ref x0)] 3 = mkF m 0 #[.val (.ref x0), .unset, .unset] [] := by first | (simp [entryFrame, mkF, argsToLocals, Value.category]; done) | rfl
def fn51A (u0 : Int32) (G1 : Int32) (w_sf : Value) : Int32 := if (fn12A (0 : Int32) [u0] G1 w_sf) = (32 : Int32) ∨ (fn12A (0 : Int32) [u0] G1 w_sf) = (9 : Int32) then (1 : Int32) else (0 : Int32)
def Q51A (Z : State) (a0 : Addr) (b : Addr) (kb : ClassId) (u0 : Int32) (G1 : Int32) (w_sf : Value) (h0 : Heap) (n0 : Nat) (v : Option Value) (h : Heap) (L : List Loc) : Prop := v = some (.int (fn51A u0 G1 w_sf)) ∧ Fr n0 L ∧ h = h0
theorem rm51A (l : Launch) (Z : State) (a0' : Array Value) (hw : ∀ d ∈ tables_1, d.before a0' Z = true) (ws : List Jvm.Cond) (a0 : Addr) (b : Addr) (kb : ClassId) (u0 : Int32) (G1 : Int32) (w_sf : Value) (h0 : Heap) (n0 : Nat) (O : Old Z n0 h0) (W : Wd Z G1 w_sf) (pf0 : Exa Z h0 a0 "java/lang/String") (pf1 : Fld Z h0 a0 "java/lang/String" "value" "[B" (.ref b)) (pf2 : Fld Z h0 a0 "java/lang/String" "coder" "B" (.int 0)) (pf3 : Arv Z h0 b kb .byte (1 : Int32) [(.int u0)] (.int 0)) :
    MetFree l mq20 (head1 (Jvm.Cond.code mq20 prog_66_method_6_code 3 (some .boolean) :: ws) ({ frames := 4, cells := 0, slots := 0, locals := 53 } : Room)) (fun a U => a = #[(.ref a0)] ∧ Z.Warmed39 U.vm ∧ U.heap = h0) (fun _ _ _ _ _ => True) (fun _ U o U' => ∃ v L, o = .returned v ∧ Q51A Z a0 b kb u0 G1 w_sf h0 n0 v U'.heap L ∧ FrameEnd U o U' L ({ frames := 4, cells := 0, slots := 0, locals := 53 } : Room).cells ({ frames := 4, cells := 0, slots := 0, locals := 53 } : Room).slots) := by
  refine MetFree.of_bodySF (plainFor_of_name pn4) hisR ?_
  intro p e s m args below meth c s₁ Bd hml0 hP hK
  obtain ⟨rfl, hZ, hh⟩ := hP
  have hx := Bd.exec
  have hby := Bd.bytes
  have hml : c.maxLocals = 3 := hml0
  have hown : s.vm.findClass "com/example/gatewarden/gatewarden/formats/PhysicalLines" = some m.cls := findClass_of_methodNamed Bd.named
  have hnm := (name_of_methodNamed Bd.named Bd.method).1
  have hk := Bd.notSynchronized
  have X0 : Stand p l e ({ frames := 4, cells := 0, slots := 0, locals := 53 } : Room) s m #[(.ref a0)] below meth c s₁ [] 0 0 := Stand.of_body Bd
  have hh2 := hh
  have e0 : s₁.heap = h0 := by rw [← hh, Bd.state]; rfl
  have N0 := Fr.nil n0
  show Gl p e below (Pos 0 0 (Q51A Z a0 b kb u0 G1 w_sf h0 n0) s) s₁ _
  refine Gl.cast (ef51A m a0) ?_
  refine gb (mkF m 1 #[vr a0, .unset, .unset] [(.int 0)]) (fun _ k => XS.iconst X0.here hx rfl (hb hby d5_0) k) ?_
  refine gb (mkF m 2 #[vr a0, vi 0, .unset] []) (fun _ k => XS.istoreN X0.here hx rfl (hb hby d5_1) rfl (l' := #[vr a0, vi 0, .unset]) rfl k) ?_
  refine gb (mkF m 3 #[vr a0, vi 0, .unset] [(.int 0)]) (fun _ k => XS.iloadN X0.here hx rfl (hb hby d5_2) rfl k) ?_
  refine gb (mkF m 4 #[vr a0, vi 0, .unset] [(.ref a0), (.int 0)]) (fun _ k => XS.aloadN X0.here hx rfl (hb hby d5_3) rfl rfl k) ?_
  obtain ⟨cq1, kq1, q1a, q1b, q1c⟩ := isOf hZ e0 pf0
  obtain ⟨_, _, ⟨T1, L1, k1, n1⟩, -, X1, ⟨Lc1, hQ1, l1, y1, z1⟩, st1⟩ := X0.virtualBack hx (y := mq9) (z := mq9) hown (mvT hZ (hW hw 31 rfl)) (mvT hZ (hW hw 32 rfl)) (notFace_of_selects (args := #[]) (mvT hZ (hW hw 34 rfl))) (mvT hZ (hW hw 34 rfl)) (mvT hZ (hW hw 33 rfl)) (by decide) (backOf (W := 1) (rm6 l Z a0' hw [] a0 b (0 : Int32) kb [(.int u0)] (1 : Int32) G1 w_sf h0 n0 O W pf0 pf1 pf2 pf3) hZ (hW hw 35 rfl) (hW hw 8 rfl) (by decide) (by decide)) q1a q1c (g := (mkF m 4 #[vr a0, vi 0, .unset] [(.ref a0), (.int 0)])) rfl (by rw [hml]; rfl) (Steps.refl _) (argsL := []) (rest := [(.int 0)]) (lenOf pd274 rfl) rfl (Nat.le_of_eq rfl) (hb hby d5_4) (fun _ _ => ⟨rfl, e0, (by decide : 0 + 0 ≤ _), (by decide : 0 + 0 ≤ _)⟩)
  dsimp only [Pt.U, Pt.locs, Pt.cells, Pt.slots] at X1 l1 y1 z1 st1 hQ1
  subst l1 y1 z1
  obtain ⟨rfl, N1q, e1⟩ := hQ1
  have N1 := Fr.app N0 N1q
  refine gb (mkF m 7 #[vr a0, vi 0, .unset] [(.int ((1 : Int32) >>> (((0 : Int32).toInt8.toInt32) &&& 31))), (.int 0)]) (fun _ k => st1.trans k) ?_
  refine gb (mkF m 10 #[vr a0, vi 0, .unset] []) (fun _ k => XS.icmpNo X1.here hx rfl (hb hby d5_7) rfl (tlt (by decide : (0 : Int32) < ((1 : Int32) >>> (((0 : Int32).toInt8.toInt32) &&& 31)))).2.1 k) ?_
  refine gb (mkF m 11 #[vr a0, vi 0, .unset] [(.ref a0)]) (fun _ k => XS.aloadN X1.here hx rfl (hb hby d5_10) rfl rfl k) ?_
  refine gb (mkF m 12 #[vr a0, vi 0, .unset] [(.int 0), (.ref a0)]) (fun _ k => XS.iloadN X1.here hx rfl (hb hby d5_11) rfl k) ?_
  obtain ⟨cq2, kq2, q2a, q2b, q2c⟩ := isOf hZ e1 pf0
  obtain ⟨_, _, ⟨T2, L2, k2, n2⟩, -, X2, ⟨Lc2, hQ2, l2, y2, z2⟩, st2⟩ := X1.virtualBack hx (y := mq10) (z := mq10) hown (mvT hZ (hW hw 55 rfl)) (mvT hZ (hW hw 56 rfl)) (notFace_of_selects (args := #[]) (mvT hZ (hW hw 58 rfl))) (mvT hZ (hW hw 58 rfl)) (mvT hZ (hW hw 57 rfl)) (by decide) (backOf (W := 0) (rm12A l Z a0' hw [] a0 (0 : Int32) b kb (1 : Int32) [u0] G1 w_sf h0 n0 O W pf0 pf1 pf2 pf3 (by decide) (by decide)) hZ (hW hw 59 rfl) (hW hw 8 rfl) (by decide) (by decide)) q2a q2c (g := (mkF m 12 #[vr a0, vi 0, .unset] [(.int 0), (.ref a0)])) rfl (by rw [hml]; rfl) (Steps.refl _) (argsL := [(.int 0)]) (rest := []) (lenOf pd289 rfl) rfl (Nat.le_of_eq rfl) (hb hby d5_12) (fun _ _ => ⟨rfl, e1, (by decide : 0 + 0 ≤ _), (by decide : 0 + 0 ≤ _)⟩)
  dsimp only [Pt.U, Pt.locs, Pt.cells, Pt.slots] at X2 l2 y2 z2 st2 hQ2
  subst l2 y2 z2
  obtain ⟨rfl, N2q, e2⟩ := hQ2
  have N2 := Fr.app N1 N2q
  refine gb (mkF m 15 #[vr a0, vi 0, .unset] [(.int (fn12A (0 : Int32) [u0] G1 w_sf))]) (fun _ k => st2.trans k) ?_
  refine gb (mkF m 16 #[vr a0, vi 0, vi (fn12A (0 : Int32) [u0] G1 w_sf)] []) (fun _ k => XS.istoreN X2.here hx rfl (hb hby d5_15) rfl (l' := #[vr a0, vi 0, vi (fn12A (0 : Int32) [u0] G1 w_sf)]) rfl k) ?_
  by_cases hB3 : (fn12A (0 : Int32) [u0] G1 w_sf) = (32 : Int32) ∨ (fn12A (0 : Int32) [u0] G1 w_sf) = (9 : Int32)
  · have J3 : ∀ (T' : State) (lc : List Loc) (X' : Stand p l e ({ frames := 4, cells := 0, slots := 0, locals := 53 } : Room) s m #[(.ref a0)] below meth c T' lc 0 0) (eT : T'.heap = h0) (N' : Fr n0 lc), Gl p e below (Pos 0 0 (Q51A Z a0 b kb u0 G1 w_sf h0 n0) s) T' (mkF m 30 #[vr a0, vi 0, vi (fn12A (0 : Int32) [u0] G1 w_sf)] []) := by
      intro T' lc X' eT N'
      refine gb (mkF m 33 #[vr a0, vi 1, vi (fn12A (0 : Int32) [u0] G1 w_sf)] []) (fun _ k => XS.iinc X'.here hx rfl (hb hby d5_30) rfl (l' := #[vr a0, vi 1, vi (fn12A (0 : Int32) [u0] G1 w_sf)]) rfl k) ?_
      refine gb (mkF m 2 #[vr a0, vi 1, vi (fn12A (0 : Int32) [u0] G1 w_sf)] []) (fun _ k => XS.goto X'.here hx rfl (pc0 := 33) (pc' := 2) rfl (hb hby d5_33) (by decide) (by decide) k) ?_
      refine gb (mkF m 3 #[vr a0, vi 1, vi (fn12A (0 : Int32) [u0] G1 w_sf)] [(.int 1)]) (fun _ k => XS.iloadN X'.here hx rfl (hb hby d5_2) rfl k) ?_
      refine gb (mkF m 4 #[vr a0, vi 1, vi (fn12A (0 : Int32) [u0] G1 w_sf)] [(.ref a0), (.int 1)]) (fun _ k => XS.aloadN X'.here hx rfl (hb hby d5_3) rfl rfl k) ?_
      obtain ⟨cq4, kq4, q4a, q4b, q4c⟩ := isOf hZ eT pf0
      obtain ⟨_, _, ⟨T4, L4, k4, n4⟩, -, X4, ⟨Lc4, hQ4, l4, y4, z4⟩, st4⟩ := X'.virtualBack hx (y := mq9) (z := mq9) hown (mvT hZ (hW hw 31 rfl)) (mvT hZ (hW hw 32 rfl)) (notFace_of_selects (args := #[]) (mvT hZ (hW hw 34 rfl))) (mvT hZ (hW hw 34 rfl)) (mvT hZ (hW hw 33 rfl)) (by decide) (backOf (W := 1) (rm6 l Z a0' hw [] a0 b (0 : Int32) kb [(.int u0)] (1 : Int32) G1 w_sf h0 n0 O W pf0 pf1 pf2 pf3) hZ (hW hw 35 rfl) (hW hw 8 rfl) (by decide) (by decide)) q4a q4c (g := (mkF m 4 #[vr a0, vi 1, vi (fn12A (0 : Int32) [u0] G1 w_sf)] [(.ref a0), (.int 1)])) rfl (by rw [hml]; rfl) (Steps.refl _) (argsL := []) (rest := [(.int 1)]) (lenOf pd274 rfl) rfl (Nat.le_of_eq rfl) (hb hby d5_4) (fun _ _ => ⟨rfl, eT, (by decide : 0 + 0 ≤ _), (by decide : 0 + 0 ≤ _)⟩)
      dsimp only [Pt.U, Pt.locs, Pt.cells, Pt.slots] at X4 l4 y4 z4 st4 hQ4
      subst l4 y4 z4
      obtain ⟨rfl, N4q, e4⟩ := hQ4
      have N4 := Fr.app N' N4q
      refine gb (mkF m 7 #[vr a0, vi 1, vi (fn12A (0 : Int32) [u0] G1 w_sf)] [(.int ((1 : Int32) >>> (((0 : Int32).toInt8.toInt32) &&& 31))), (.int 1)]) (fun _ k => st4.trans k) ?_
      refine gb (mkF m 36 #[vr a0, vi 1, vi (fn12A (0 : Int32) [u0] G1 w_sf)] []) (fun _ k => XS.icmpYes X4.here hx rfl (pc0 := 7) (pc' := 36) rfl (hb hby d5_7) rfl (flt (by decide : ¬ ((1 : Int32) < ((1 : Int32) >>> (((0 : Int32).toInt8.toInt32) &&& 31))))).2.1 (by decide) (by decide) k) ?_
      refine gb (mkF m 37 #[vr a0, vi 1, vi (fn12A (0 : Int32) [u0] G1 w_sf)] [(.int 1)]) (fun _ k => XS.iconst X4.here hx rfl (hb hby d5_36) k) ?_
      exact Gl.outN X4 hx hk (t := .boolean) Bd.returns (by simp) (hb hby d5_37) ⟨(congrArg (fun z => some (Value.int z)) (show nar .boolean (1 : Int32) = fn51A u0 G1 w_sf by unfold fn51A; rw [if_pos hB3]; try rfl)), N4, e4⟩ (by decide) (by decide)
    rcases hB3 with q3 | q3
    · refine gb (mkF m 17 #[vr a0, vi 0, vi (fn12A (0 : Int32) [u0] G1 w_sf)] [(.int (fn12A (0 : Int32) [u0] G1 w_sf))]) (fun _ k => XS.iloadN X2.here hx rfl (hb hby d5_16) rfl k) ?_
      refine gb (mkF m 19 #[vr a0, vi 0, vi (fn12A (0 : Int32) [u0] G1 w_sf)] [(.int 32), (.int (fn12A (0 : Int32) [u0] G1 w_sf))]) (fun _ k => XS.bipush X2.here hx rfl (hb hby d5_17) k) ?_
      refine gb (mkF m 30 #[vr a0, vi 0, vi (fn12A (0 : Int32) [u0] G1 w_sf)] []) (fun _ k => XS.icmpYes X2.here hx rfl (pc0 := 19) (pc' := 30) rfl (hb hby d5_19) rfl (teq q3).1 (by decide) (by decide) k) ?_
      exact J3 _ _ X2 e2 N2
    · refine gb (mkF m 17 #[vr a0, vi 0, vi (fn12A (0 : Int32) [u0] G1 w_sf)] [(.int (fn12A (0 : Int32) [u0] G1 w_sf))]) (fun _ k => XS.iloadN X2.here hx rfl (hb hby d5_16) rfl k) ?_
      refine gb (mkF m 19 #[vr a0, vi 0, vi (fn12A (0 : Int32) [u0] G1 w_sf)] [(.int 32), (.int (fn12A (0 : Int32) [u0] G1 w_sf))]) (fun _ k => XS.bipush X2.here hx rfl (hb hby d5_17) k) ?_
      refine gb (mkF m 22 #[vr a0, vi 0, vi (fn12A (0 : Int32) [u0] G1 w_sf)] []) (fun _ k => XS.icmpNo X2.here hx rfl (hb hby d5_19) rfl (feq (fun z => absurd (q3.symm.trans z) (by decide))).1 k) ?_
      refine gb (mkF m 23 #[vr a0, vi 0, vi (fn12A (0 : Int32) [u0] G1 w_sf)] [(.int (fn12A (0 : Int32) [u0] G1 w_sf))]) (fun _ k => XS.iloadN X2.here hx rfl (hb hby d5_22) rfl k) ?_
      refine gb (mkF m 25 #[vr a0, vi 0, vi (fn12A (0 : Int32) [u0] G1 w_sf)] [(.int 9), (.int (fn12A (0 : Int32) [u0] G1 w_sf))]) (fun _ k => XS.bipush X2.here hx rfl (hb hby d5_23) k) ?_
      refine gb (mkF m 30 #[vr a0, vi 0, vi (fn12A (0 : Int32) [u0] G1 w_sf)] []) (fun _ k => XS.icmpYes X2.here hx rfl (pc0 := 25) (pc' := 30) rfl (hb hby d5_25) rfl (teq q3).1 (by decide) (by decide) k) ?_
      exact J3 _ _ X2 e2 N2
  · refine gb (mkF m 17 #[vr a0, vi 0, vi (fn12A (0 : Int32) [u0] G1 w_sf)] [(.int (fn12A (0 : Int32) [u0] G1 w_sf))]) (fun _ k => XS.iloadN X2.here hx rfl (hb hby d5_16) rfl k) ?_
    refine gb (mkF m 19 #[vr a0, vi 0, vi (fn12A (0 : Int32) [u0] G1 w_sf)] [(.int 32), (.int (fn12A (0 : Int32) [u0] G1 w_sf))]) (fun _ k => XS.bipush X2.here hx rfl (hb hby d5_17) k) ?_
    refine gb (mkF m 22 #[vr a0, vi 0, vi (fn12A (0 : Int32) [u0] G1 w_sf)] []) (fun _ k => XS.icmpNo X2.here hx rfl (hb hby d5_19) rfl (feq (fun q => hB3 (Or.inl q))).1 k) ?_
    refine gb (mkF m 23 #[vr a0, vi 0, vi (fn12A (0 : Int32) [u0] G1 w_sf)] [(.int (fn12A (0 : Int32) [u0] G1 w_sf))]) (fun _ k => XS.iloadN X2.here hx rfl (hb hby d5_22) rfl k) ?_
    refine gb (mkF m 25 #[vr a0, vi 0, vi (fn12A (0 : Int32) [u0] G1 w_sf)] [(.int 9), (.int (fn12A (0 : Int32) [u0] G1 w_sf))]) (fun _ k => XS.bipush X2.here hx rfl (hb hby d5_23) k) ?_
    refine gb (mkF m 28 #[vr a0, vi 0, vi (fn12A (0 : Int32) [u0] G1 w_sf)] []) (fun _ k => XS.icmpNo X2.here hx rfl (hb hby d5_25) rfl (feq (fun q => hB3 (Or.inr q))).1 k) ?_
    refine gb (mkF m 29 #[vr a0, vi 0, vi (fn12A (0 : Int32) [u0] G1 w_sf)] [(.int 0)]) (fun _ k => XS.iconst X2.here hx rfl (hb hby d5_28) k) ?_
    exact Gl.outN X2 hx hk (t := .boolean) Bd.returns (by simp) (hb hby d5_29) ⟨(congrArg (fun z => some (Value.int z)) (show nar .boolean (0 : Int32) = fn51A u0 G1 w_sf by unfold fn51A; rw [if_neg hB3]; try rfl)), N2, e2⟩ (by decide) (by decide)
theorem ef51U (m : MethodId) (x0 : Addr) : entryFrame m #[(.ref x0)] 3 = mkF m 0 #[.val (.ref x0), .unset, .unset] [] := by first | (simp [entryFrame, mkF, argsToLocals, Value.category]; done) | rfl
def fn51U (u0 : Int32) (u1 : Int32) (G1 : Int32) (w_sf : Value) : Int32 := if (fn12U (0 : Int32) [u0, u1] G1 w_sf) = (32 : Int32) ∨ (fn12U (0 : Int32) [u0, u1] G1 w_sf) = (9 : Int32) then (1 : Int32) else (0 : Int32)
def Q51U (Z : State) (a0 : Addr) (b : Addr) (kb : ClassId) (u0 : Int32) (u1 : Int32) (G1 : Int32) (w_sf : Value) (h0 : Heap) (n0 : Nat) (v : Option Value) (h : Heap) (L : List Loc) : Prop := v = some (.int (fn51U u0 u1 G1 w_sf)) ∧ Fr n0 L ∧ h = h0
theorem rm51U (l : Launch) (Z : State) (a0' : Array Value) (hw : ∀ d ∈ tables_1, d.before a0' Z = true) (ws : List Jvm.Cond) (a0 : Addr) (b : Addr) (kb : ClassId) (u0 : Int32) (u1 : Int32) (G1 : Int32) (w_sf : Value) (h0 : Heap) (n0 : Nat) (O : Old Z n0 h0) (W : Wd Z G1 w_sf) (pf0 : Exa Z h0 a0 "java/lang/String") (pf1 : Fld Z h0 a0 "java/lang/String" "value" "[B" (.ref b)) (pf2 : Fld Z h0 a0 "java/lang/String" "coder" "B" (.int 1)) (pf3 : Arv Z h0 b kb .byte (2 : Int32) [(.int u0), (.int u1)] (.int 0)) :
    MetFree l mq20 (head1 (Jvm.Cond.code mq20 prog_66_method_6_code 3 (some .boolean) :: ws) ({ frames := 5, cells := 0, slots := 0, locals := 66 } : Room)) (fun a U => a = #[(.ref a0)] ∧ Z.Warmed39 U.vm ∧ U.heap = h0) (fun _ _ _ _ _ => True) (fun _ U o U' => ∃ v L, o = .returned v ∧ Q51U Z a0 b kb u0 u1 G1 w_sf h0 n0 v U'.heap L ∧ FrameEnd U o U' L ({ frames := 5, cells := 0, slots := 0, locals := 66 } : Room).cells ({ frames := 5, cells := 0, slots := 0, locals := 66 } : Room).slots) := by
  refine MetFree.of_bodySF (plainFor_of_name pn4) hisR ?_
  intro p e s m args below meth c s₁ Bd hml0 hP hK
  obtain ⟨rfl, hZ, hh⟩ := hP
  have hx := Bd.exec
  have hby := Bd.bytes
  have hml : c.maxLocals = 3 := hml0
  have hown : s.vm.findClass "com/example/gatewarden/gatewarden/formats/PhysicalLines" = some m.cls := findClass_of_methodNamed Bd.named
  have hnm := (name_of_methodNamed Bd.named Bd.method).1
  have hk := Bd.notSynchronized
  have X0 : Stand p l e ({ frames := 5, cells := 0, slots := 0, locals := 66 } : Room) s m #[(.ref a0)] below meth c s₁ [] 0 0 := Stand.of_body Bd
  have hh2 := hh
  have e0 : s₁.heap = h0 := by rw [← hh, Bd.state]; rfl
  have N0 := Fr.nil n0
  show Gl p e below (Pos 0 0 (Q51U Z a0 b kb u0 u1 G1 w_sf h0 n0) s) s₁ _
  refine Gl.cast (ef51U m a0) ?_
  refine gb (mkF m 1 #[vr a0, .unset, .unset] [(.int 0)]) (fun _ k => XS.iconst X0.here hx rfl (hb hby d5_0) k) ?_
  refine gb (mkF m 2 #[vr a0, vi 0, .unset] []) (fun _ k => XS.istoreN X0.here hx rfl (hb hby d5_1) rfl (l' := #[vr a0, vi 0, .unset]) rfl k) ?_
  refine gb (mkF m 3 #[vr a0, vi 0, .unset] [(.int 0)]) (fun _ k => XS.iloadN X0.here hx rfl (hb hby d5_2) rfl k) ?_
  refine gb (mkF m 4 #[vr a0, vi 0, .unset] [(.ref a0), (.int 0)]) (fun _ k => XS.aloadN X0.here hx rfl (hb hby d5_3) rfl rfl k) ?_
  obtain ⟨cq1, kq1, q1a, q1b, q1c⟩ := isOf hZ e0 pf0
  obtain ⟨_, _, ⟨T1, L1, k1, n1⟩, -, X1, ⟨Lc1, hQ1, l1, y1, z1⟩, st1⟩ := X0.virtualBack hx (y := mq9) (z := mq9) hown (mvT hZ (hW hw 31 rfl)) (mvT hZ (hW hw 32 rfl)) (notFace_of_selects (args := #[]) (mvT hZ (hW hw 34 rfl))) (mvT hZ (hW hw 34 rfl)) (mvT hZ (hW hw 33 rfl)) (by decide) (backOf (W := 1) (rm6 l Z a0' hw [] a0 b (1 : Int32) kb [(.int u0), (.int u1)] (2 : Int32) G1 w_sf h0 n0 O W pf0 pf1 pf2 pf3) hZ (hW hw 35 rfl) (hW hw 8 rfl) (by decide) (by decide)) q1a q1c (g := (mkF m 4 #[vr a0, vi 0, .unset] [(.ref a0), (.int 0)])) rfl (by rw [hml]; rfl) (Steps.refl _) (argsL := []) (rest := [(.int 0)]) (lenOf pd274 rfl) rfl (Nat.le_of_eq rfl) (hb hby d5_4) (fun _ _ => ⟨rfl, e0, (by decide : 0 + 0 ≤ _), (by decide : 0 + 0 ≤ _)⟩)
  dsimp only [Pt.U, Pt.locs, Pt.cells, Pt.slots] at X1 l1 y1 z1 st1 hQ1
  subst l1 y1 z1
  obtain ⟨rfl, N1q, e1⟩ := hQ1
  have N1 := Fr.app N0 N1q
  refine gb (mkF m 7 #[vr a0, vi 0, .unset] [(.int ((2 : Int32) >>> (((1 : Int32).toInt8.toInt32) &&& 31))), (.int 0)]) (fun _ k => st1.trans k) ?_
  refine gb (mkF m 10 #[vr a0, vi 0, .unset] []) (fun _ k => XS.icmpNo X1.here hx rfl (hb hby d5_7) rfl (tlt (by decide : (0 : Int32) < ((2 : Int32) >>> (((1 : Int32).toInt8.toInt32) &&& 31)))).2.1 k) ?_
  refine gb (mkF m 11 #[vr a0, vi 0, .unset] [(.ref a0)]) (fun _ k => XS.aloadN X1.here hx rfl (hb hby d5_10) rfl rfl k) ?_
  refine gb (mkF m 12 #[vr a0, vi 0, .unset] [(.int 0), (.ref a0)]) (fun _ k => XS.iloadN X1.here hx rfl (hb hby d5_11) rfl k) ?_
  obtain ⟨cq2, kq2, q2a, q2b, q2c⟩ := isOf hZ e1 pf0
  obtain ⟨_, _, ⟨T2, L2, k2, n2⟩, -, X2, ⟨Lc2, hQ2, l2, y2, z2⟩, st2⟩ := X1.virtualBack hx (y := mq10) (z := mq10) hown (mvT hZ (hW hw 55 rfl)) (mvT hZ (hW hw 56 rfl)) (notFace_of_selects (args := #[]) (mvT hZ (hW hw 58 rfl))) (mvT hZ (hW hw 58 rfl)) (mvT hZ (hW hw 57 rfl)) (by decide) (backOf (W := 0) (rm12U l Z a0' hw [] a0 (0 : Int32) b kb (2 : Int32) [u0, u1] G1 w_sf h0 n0 O W pf0 pf1 pf2 pf3 (by decide) (by decide) (by decide) (by decide)) hZ (hW hw 59 rfl) (hW hw 8 rfl) (by decide) (by decide)) q2a q2c (g := (mkF m 12 #[vr a0, vi 0, .unset] [(.int 0), (.ref a0)])) rfl (by rw [hml]; rfl) (Steps.refl _) (argsL := [(.int 0)]) (rest := []) (lenOf pd289 rfl) rfl (Nat.le_of_eq rfl) (hb hby d5_12) (fun _ _ => ⟨rfl, e1, (by decide : 0 + 0 ≤ _), (by decide : 0 + 0 ≤ _)⟩)
  dsimp only [Pt.U, Pt.locs, Pt.cells, Pt.slots] at X2 l2 y2 z2 st2 hQ2
  subst l2 y2 z2
  obtain ⟨rfl, N2q, e2⟩ := hQ2
  have N2 := Fr.app N1 N2q
  refine gb (mkF m 15 #[vr a0, vi 0, .unset] [(.int (fn12U (0 : Int32) [u0, u1] G1 w_sf))]) (fun _ k => st2.trans k) ?_
  refine gb (mkF m 16 #[vr a0, vi 0, vi (fn12U (0 : Int32) [u0, u1] G1 w_sf)] []) (fun _ k => XS.istoreN X2.here hx rfl (hb hby d5_15) rfl (l' := #[vr a0, vi 0, vi (fn12U (0 : Int32) [u0, u1] G1 w_sf)]) rfl k) ?_
  by_cases hB3 : (fn12U (0 : Int32) [u0, u1] G1 w_sf) = (32 : Int32) ∨ (fn12U (0 : Int32) [u0, u1] G1 w_sf) = (9 : Int32)
  · have J3 : ∀ (T' : State) (lc : List Loc) (X' : Stand p l e ({ frames := 5, cells := 0, slots := 0, locals := 66 } : Room) s m #[(.ref a0)] below meth c T' lc 0 0) (eT : T'.heap = h0) (N' : Fr n0 lc), Gl p e below (Pos 0 0 (Q51U Z a0 b kb u0 u1 G1 w_sf h0 n0) s) T' (mkF m 30 #[vr a0, vi 0, vi (fn12U (0 : Int32) [u0, u1] G1 w_sf)] []) := by
      intro T' lc X' eT N'
      refine gb (mkF m 33 #[vr a0, vi 1, vi (fn12U (0 : Int32) [u0, u1] G1 w_sf)] []) (fun _ k => XS.iinc X'.here hx rfl (hb hby d5_30) rfl (l' := #[vr a0, vi 1, vi (fn12U (0 : Int32) [u0, u1] G1 w_sf)]) rfl k) ?_
      refine gb (mkF m 2 #[vr a0, vi 1, vi (fn12U (0 : Int32) [u0, u1] G1 w_sf)] []) (fun _ k => XS.goto X'.here hx rfl (pc0 := 33) (pc' := 2) rfl (hb hby d5_33) (by decide) (by decide) k) ?_
      refine gb (mkF m 3 #[vr a0, vi 1, vi (fn12U (0 : Int32) [u0, u1] G1 w_sf)] [(.int 1)]) (fun _ k => XS.iloadN X'.here hx rfl (hb hby d5_2) rfl k) ?_
      refine gb (mkF m 4 #[vr a0, vi 1, vi (fn12U (0 : Int32) [u0, u1] G1 w_sf)] [(.ref a0), (.int 1)]) (fun _ k => XS.aloadN X'.here hx rfl (hb hby d5_3) rfl rfl k) ?_
      obtain ⟨cq4, kq4, q4a, q4b, q4c⟩ := isOf hZ eT pf0
      obtain ⟨_, _, ⟨T4, L4, k4, n4⟩, -, X4, ⟨Lc4, hQ4, l4, y4, z4⟩, st4⟩ := X'.virtualBack hx (y := mq9) (z := mq9) hown (mvT hZ (hW hw 31 rfl)) (mvT hZ (hW hw 32 rfl)) (notFace_of_selects (args := #[]) (mvT hZ (hW hw 34 rfl))) (mvT hZ (hW hw 34 rfl)) (mvT hZ (hW hw 33 rfl)) (by decide) (backOf (W := 1) (rm6 l Z a0' hw [] a0 b (1 : Int32) kb [(.int u0), (.int u1)] (2 : Int32) G1 w_sf h0 n0 O W pf0 pf1 pf2 pf3) hZ (hW hw 35 rfl) (hW hw 8 rfl) (by decide) (by decide)) q4a q4c (g := (mkF m 4 #[vr a0, vi 1, vi (fn12U (0 : Int32) [u0, u1] G1 w_sf)] [(.ref a0), (.int 1)])) rfl (by rw [hml]; rfl) (Steps.refl _) (argsL := []) (rest := [(.int 1)]) (lenOf pd274 rfl) rfl (Nat.le_of_eq rfl) (hb hby d5_4) (fun _ _ => ⟨rfl, eT, (by decide : 0 + 0 ≤ _), (by decide : 0 + 0 ≤ _)⟩)
      dsimp only [Pt.U, Pt.locs, Pt.cells, Pt.slots] at X4 l4 y4 z4 st4 hQ4
      subst l4 y4 z4
      obtain ⟨rfl, N4q, e4⟩ := hQ4
      have N4 := Fr.app N' N4q
      refine gb (mkF m 7 #[vr a0, vi 1, vi (fn12U (0 : Int32) [u0, u1] G1 w_sf)] [(.int ((2 : Int32) >>> (((1 : Int32).toInt8.toInt32) &&& 31))), (.int 1)]) (fun _ k => st4.trans k) ?_
      refine gb (mkF m 36 #[vr a0, vi 1, vi (fn12U (0 : Int32) [u0, u1] G1 w_sf)] []) (fun _ k => XS.icmpYes X4.here hx rfl (pc0 := 7) (pc' := 36) rfl (hb hby d5_7) rfl (flt (by decide : ¬ ((1 : Int32) < ((2 : Int32) >>> (((1 : Int32).toInt8.toInt32) &&& 31))))).2.1 (by decide) (by decide) k) ?_
      refine gb (mkF m 37 #[vr a0, vi 1, vi (fn12U (0 : Int32) [u0, u1] G1 w_sf)] [(.int 1)]) (fun _ k => XS.iconst X4.here hx rfl (hb hby d5_36) k) ?_
      exact Gl.outN X4 hx hk (t := .boolean) Bd.returns (by simp) (hb hby d5_37) ⟨(congrArg (fun z => some (Value.int z)) (show nar .boolean (1 : Int32) = fn51U u0 u1 G1 w_sf by unfold fn51U; rw [if_pos hB3]; try rfl)), N4, e4⟩ (by decide) (by decide)
    rcases hB3 with q3 | q3
    · refine gb (mkF m 17 #[vr a0, vi 0, vi (fn12U (0 : Int32) [u0, u1] G1 w_sf)] [(.int (fn12U (0 : Int32) [u0, u1] G1 w_sf))]) (fun _ k => XS.iloadN X2.here hx rfl (hb hby d5_16) rfl k) ?_
      refine gb (mkF m 19 #[vr a0, vi 0, vi (fn12U (0 : Int32) [u0, u1] G1 w_sf)] [(.int 32), (.int (fn12U (0 : Int32) [u0, u1] G1 w_sf))]) (fun _ k => XS.bipush X2.here hx rfl (hb hby d5_17) k) ?_
      refine gb (mkF m 30 #[vr a0, vi 0, vi (fn12U (0 : Int32) [u0, u1] G1 w_sf)] []) (fun _ k => XS.icmpYes X2.here hx rfl (pc0 := 19) (pc' := 30) rfl (hb hby d5_19) rfl (teq q3).1 (by decide) (by decide) k) ?_
      exact J3 _ _ X2 e2 N2
    · refine gb (mkF m 17 #[vr a0, vi 0, vi (fn12U (0 : Int32) [u0, u1] G1 w_sf)] [(.int (fn12U (0 : Int32) [u0, u1] G1 w_sf))]) (fun _ k => XS.iloadN X2.here hx rfl (hb hby d5_16) rfl k) ?_
      refine gb (mkF m 19 #[vr a0, vi 0, vi (fn12U (0 : Int32) [u0, u1] G1 w_sf)] [(.int 32), (.int (fn12U (0 : Int32) [u0, u1] G1 w_sf))]) (fun _ k => XS.bipush X2.here hx rfl (hb hby d5_17) k) ?_
      refine gb (mkF m 22 #[vr a0, vi 0, vi (fn12U (0 : Int32) [u0, u1] G1 w_sf)] []) (fun _ k => XS.icmpNo X2.here hx rfl (hb hby d5_19) rfl (feq (fun z => absurd (q3.symm.trans z) (by decide))).1 k) ?_
      refine gb (mkF m 23 #[vr a0, vi 0, vi (fn12U (0 : Int32) [u0, u1] G1 w_sf)] [(.int (fn12U (0 : Int32) [u0, u1] G1 w_sf))]) (fun _ k => XS.iloadN X2.here hx rfl (hb hby d5_22) rfl k) ?_
      refine gb (mkF m 25 #[vr a0, vi 0, vi (fn12U (0 : Int32) [u0, u1] G1 w_sf)] [(.int 9), (.int (fn12U (0 : Int32) [u0, u1] G1 w_sf))]) (fun _ k => XS.bipush X2.here hx rfl (hb hby d5_23) k) ?_
      refine gb (mkF m 30 #[vr a0, vi 0, vi (fn12U (0 : Int32) [u0, u1] G1 w_sf)] []) (fun _ k => XS.icmpYes X2.here hx rfl (pc0 := 25) (pc' := 30) rfl (hb hby d5_25) rfl (teq q3).1 (by decide) (by decide) k) ?_
      exact J3 _ _ X2 e2 N2
  · refine gb (mkF m 17 #[vr a0, vi 0, vi (fn12U (0 : Int32) [u0, u1] G1 w_sf)] [(.int (fn12U (0 : Int32) [u0, u1] G1 w_sf))]) (fun _ k => XS.iloadN X2.here hx rfl (hb hby d5_16) rfl k) ?_
    refine gb (mkF m 19 #[vr a0, vi 0, vi (fn12U (0 : Int32) [u0, u1] G1 w_sf)] [(.int 32), (.int (fn12U (0 : Int32) [u0, u1] G1 w_sf))]) (fun _ k => XS.bipush X2.here hx rfl (hb hby d5_17) k) ?_
    refine gb (mkF m 22 #[vr a0, vi 0, vi (fn12U (0 : Int32) [u0, u1] G1 w_sf)] []) (fun _ k => XS.icmpNo X2.here hx rfl (hb hby d5_19) rfl (feq (fun q => hB3 (Or.inl q))).1 k) ?_
    refine gb (mkF m 23 #[vr a0, vi 0, vi (fn12U (0 : Int32) [u0, u1] G1 w_sf)] [(.int (fn12U (0 : Int32) [u0, u1] G1 w_sf))]) (fun _ k => XS.iloadN X2.here hx rfl (hb hby d5_22) rfl k) ?_
    refine gb (mkF m 25 #[vr a0, vi 0, vi (fn12U (0 : Int32) [u0, u1] G1 w_sf)] [(.int 9), (.int (fn12U (0 : Int32) [u0, u1] G1 w_sf))]) (fun _ k => XS.bipush X2.here hx rfl (hb hby d5_23) k) ?_
    refine gb (mkF m 28 #[vr a0, vi 0, vi (fn12U (0 : Int32) [u0, u1] G1 w_sf)] []) (fun _ k => XS.icmpNo X2.here hx rfl (hb hby d5_25) rfl (feq (fun q => hB3 (Or.inr q))).1 k) ?_
    refine gb (mkF m 29 #[vr a0, vi 0, vi (fn12U (0 : Int32) [u0, u1] G1 w_sf)] [(.int 0)]) (fun _ k => XS.iconst X2.here hx rfl (hb hby d5_28) k) ?_
    exact Gl.outN X2 hx hk (t := .boolean) Bd.returns (by simp) (hb hby d5_29) ⟨(congrArg (fun z => some (Value.int z)) (show nar .boolean (0 : Int32) = fn51U u0 u1 G1 w_sf by unfold fn51U; rw [if_neg hB3]; try rfl)), N2, e2⟩ (by decide) (by decide)
theorem ef52A (m : MethodId) (x0 : Addr) : entryFrame m #[(.ref x0)] 3 = mkF m 0 #[.val (.ref x0), .unset, .unset] [] := by first | (simp [entryFrame, mkF, argsToLocals, Value.category]; done) | rfl
def fn52A (u0 : Int32) (u1 : Int32) (G1 : Int32) (w_sf : Value) : Int32 := if (fn12A (0 : Int32) [u0, u1] G1 w_sf) = (32 : Int32) ∨ (fn12A (0 : Int32) [u0, u1] G1 w_sf) = (9 : Int32) then if (fn12A (1 : Int32) [u0, u1] G1 w_sf) = (32 : Int32) ∨ (fn12A (1 : Int32) [u0, u1] G1 w_sf) = (9 : Int32) then (1 : Int32) else (0 : Int32) else (0 : Int32)
def Q52A (Z : State) (a0 : Addr) (b : Addr) (kb : ClassId) (u0 : Int32) (u1 : Int32) (G1 : Int32) (w_sf : Value) (h0 : Heap) (n0 : Nat) (v : Option Value) (h : Heap) (L : List Loc) : Prop := v = some (.int (fn52A u0 u1 G1 w_sf)) ∧ Fr n0 L ∧ h = h0
theorem rm52A (l : Launch) (Z : State) (a0' : Array Value) (hw : ∀ d ∈ tables_1, d.before a0' Z = true) (ws : List Jvm.Cond) (a0 : Addr) (b : Addr) (kb : ClassId) (u0 : Int32) (u1 : Int32) (G1 : Int32) (w_sf : Value) (h0 : Heap) (n0 : Nat) (O : Old Z n0 h0) (W : Wd Z G1 w_sf) (pf0 : Exa Z h0 a0 "java/lang/String") (pf1 : Fld Z h0 a0 "java/lang/String" "value" "[B" (.ref b)) (pf2 : Fld Z h0 a0 "java/lang/String" "coder" "B" (.int 0)) (pf3 : Arv Z h0 b kb .byte (2 : Int32) [(.int u0), (.int u1)] (.int 0)) :
    MetFree l mq20 (head1 (Jvm.Cond.code mq20 prog_66_method_6_code 3 (some .boolean) :: ws) ({ frames := 4, cells := 0, slots := 0, locals := 53 } : Room)) (fun a U => a = #[(.ref a0)] ∧ Z.Warmed39 U.vm ∧ U.heap = h0) (fun _ _ _ _ _ => True) (fun _ U o U' => ∃ v L, o = .returned v ∧ Q52A Z a0 b kb u0 u1 G1 w_sf h0 n0 v U'.heap L ∧ FrameEnd U o U' L ({ frames := 4, cells := 0, slots := 0, locals := 53 } : Room).cells ({ frames := 4, cells := 0, slots := 0, locals := 53 } : Room).slots) := by
  refine MetFree.of_bodySF (plainFor_of_name pn4) hisR ?_
  intro p e s m args below meth c s₁ Bd hml0 hP hK
  obtain ⟨rfl, hZ, hh⟩ := hP
  have hx := Bd.exec
  have hby := Bd.bytes
  have hml : c.maxLocals = 3 := hml0
  have hown : s.vm.findClass "com/example/gatewarden/gatewarden/formats/PhysicalLines" = some m.cls := findClass_of_methodNamed Bd.named
  have hnm := (name_of_methodNamed Bd.named Bd.method).1
  have hk := Bd.notSynchronized
  have X0 : Stand p l e ({ frames := 4, cells := 0, slots := 0, locals := 53 } : Room) s m #[(.ref a0)] below meth c s₁ [] 0 0 := Stand.of_body Bd
  have hh2 := hh
  have e0 : s₁.heap = h0 := by rw [← hh, Bd.state]; rfl
  have N0 := Fr.nil n0
  show Gl p e below (Pos 0 0 (Q52A Z a0 b kb u0 u1 G1 w_sf h0 n0) s) s₁ _
  refine Gl.cast (ef52A m a0) ?_
  refine gb (mkF m 1 #[vr a0, .unset, .unset] [(.int 0)]) (fun _ k => XS.iconst X0.here hx rfl (hb hby d5_0) k) ?_
  refine gb (mkF m 2 #[vr a0, vi 0, .unset] []) (fun _ k => XS.istoreN X0.here hx rfl (hb hby d5_1) rfl (l' := #[vr a0, vi 0, .unset]) rfl k) ?_
  refine gb (mkF m 3 #[vr a0, vi 0, .unset] [(.int 0)]) (fun _ k => XS.iloadN X0.here hx rfl (hb hby d5_2) rfl k) ?_
  refine gb (mkF m 4 #[vr a0, vi 0, .unset] [(.ref a0), (.int 0)]) (fun _ k => XS.aloadN X0.here hx rfl (hb hby d5_3) rfl rfl k) ?_
  obtain ⟨cq1, kq1, q1a, q1b, q1c⟩ := isOf hZ e0 pf0
  obtain ⟨_, _, ⟨T1, L1, k1, n1⟩, -, X1, ⟨Lc1, hQ1, l1, y1, z1⟩, st1⟩ := X0.virtualBack hx (y := mq9) (z := mq9) hown (mvT hZ (hW hw 31 rfl)) (mvT hZ (hW hw 32 rfl)) (notFace_of_selects (args := #[]) (mvT hZ (hW hw 34 rfl))) (mvT hZ (hW hw 34 rfl)) (mvT hZ (hW hw 33 rfl)) (by decide) (backOf (W := 1) (rm6 l Z a0' hw [] a0 b (0 : Int32) kb [(.int u0), (.int u1)] (2 : Int32) G1 w_sf h0 n0 O W pf0 pf1 pf2 pf3) hZ (hW hw 35 rfl) (hW hw 8 rfl) (by decide) (by decide)) q1a q1c (g := (mkF m 4 #[vr a0, vi 0, .unset] [(.ref a0), (.int 0)])) rfl (by rw [hml]; rfl) (Steps.refl _) (argsL := []) (rest := [(.int 0)]) (lenOf pd274 rfl) rfl (Nat.le_of_eq rfl) (hb hby d5_4) (fun _ _ => ⟨rfl, e0, (by decide : 0 + 0 ≤ _), (by decide : 0 + 0 ≤ _)⟩)
  dsimp only [Pt.U, Pt.locs, Pt.cells, Pt.slots] at X1 l1 y1 z1 st1 hQ1
  subst l1 y1 z1
  obtain ⟨rfl, N1q, e1⟩ := hQ1
  have N1 := Fr.app N0 N1q
  refine gb (mkF m 7 #[vr a0, vi 0, .unset] [(.int ((2 : Int32) >>> (((0 : Int32).toInt8.toInt32) &&& 31))), (.int 0)]) (fun _ k => st1.trans k) ?_
  refine gb (mkF m 10 #[vr a0, vi 0, .unset] []) (fun _ k => XS.icmpNo X1.here hx rfl (hb hby d5_7) rfl (tlt (by decide : (0 : Int32) < ((2 : Int32) >>> (((0 : Int32).toInt8.toInt32) &&& 31)))).2.1 k) ?_
  refine gb (mkF m 11 #[vr a0, vi 0, .unset] [(.ref a0)]) (fun _ k => XS.aloadN X1.here hx rfl (hb hby d5_10) rfl rfl k) ?_
  refine gb (mkF m 12 #[vr a0, vi 0, .unset] [(.int 0), (.ref a0)]) (fun _ k => XS.iloadN X1.here hx rfl (hb hby d5_11) rfl k) ?_
  obtain ⟨cq2, kq2, q2a, q2b, q2c⟩ := isOf hZ e1 pf0
  obtain ⟨_, _, ⟨T2, L2, k2, n2⟩, -, X2, ⟨Lc2, hQ2, l2, y2, z2⟩, st2⟩ := X1.virtualBack hx (y := mq10) (z := mq10) hown (mvT hZ (hW hw 55 rfl)) (mvT hZ (hW hw 56 rfl)) (notFace_of_selects (args := #[]) (mvT hZ (hW hw 58 rfl))) (mvT hZ (hW hw 58 rfl)) (mvT hZ (hW hw 57 rfl)) (by decide) (backOf (W := 0) (rm12A l Z a0' hw [] a0 (0 : Int32) b kb (2 : Int32) [u0, u1] G1 w_sf h0 n0 O W pf0 pf1 pf2 pf3 (by decide) (by decide)) hZ (hW hw 59 rfl) (hW hw 8 rfl) (by decide) (by decide)) q2a q2c (g := (mkF m 12 #[vr a0, vi 0, .unset] [(.int 0), (.ref a0)])) rfl (by rw [hml]; rfl) (Steps.refl _) (argsL := [(.int 0)]) (rest := []) (lenOf pd289 rfl) rfl (Nat.le_of_eq rfl) (hb hby d5_12) (fun _ _ => ⟨rfl, e1, (by decide : 0 + 0 ≤ _), (by decide : 0 + 0 ≤ _)⟩)
  dsimp only [Pt.U, Pt.locs, Pt.cells, Pt.slots] at X2 l2 y2 z2 st2 hQ2
  subst l2 y2 z2
  obtain ⟨rfl, N2q, e2⟩ := hQ2
  have N2 := Fr.app N1 N2q
  refine gb (mkF m 15 #[vr a0, vi 0, .unset] [(.int (fn12A (0 : Int32) [u0, u1] G1 w_sf))]) (fun _ k => st2.trans k) ?_
  refine gb (mkF m 16 #[vr a0, vi 0, vi (fn12A (0 : Int32) [u0, u1] G1 w_sf)] []) (fun _ k => XS.istoreN X2.here hx rfl (hb hby d5_15) rfl (l' := #[vr a0, vi 0, vi (fn12A (0 : Int32) [u0, u1] G1 w_sf)]) rfl k) ?_
  by_cases hB3 : (fn12A (0 : Int32) [u0, u1] G1 w_sf) = (32 : Int32) ∨ (fn12A (0 : Int32) [u0, u1] G1 w_sf) = (9 : Int32)
  · have J3 : ∀ (T' : State) (lc : List Loc) (X' : Stand p l e ({ frames := 4, cells := 0, slots := 0, locals := 53 } : Room) s m #[(.ref a0)] below meth c T' lc 0 0) (eT : T'.heap = h0) (N' : Fr n0 lc), Gl p e below (Pos 0 0 (Q52A Z a0 b kb u0 u1 G1 w_sf h0 n0) s) T' (mkF m 30 #[vr a0, vi 0, vi (fn12A (0 : Int32) [u0, u1] G1 w_sf)] []) := by
      intro T' lc X' eT N'
      refine gb (mkF m 33 #[vr a0, vi 1, vi (fn12A (0 : Int32) [u0, u1] G1 w_sf)] []) (fun _ k => XS.iinc X'.here hx rfl (hb hby d5_30) rfl (l' := #[vr a0, vi 1, vi (fn12A (0 : Int32) [u0, u1] G1 w_sf)]) rfl k) ?_
      refine gb (mkF m 2 #[vr a0, vi 1, vi (fn12A (0 : Int32) [u0, u1] G1 w_sf)] []) (fun _ k => XS.goto X'.here hx rfl (pc0 := 33) (pc' := 2) rfl (hb hby d5_33) (by decide) (by decide) k) ?_
      refine gb (mkF m 3 #[vr a0, vi 1, vi (fn12A (0 : Int32) [u0, u1] G1 w_sf)] [(.int 1)]) (fun _ k => XS.iloadN X'.here hx rfl (hb hby d5_2) rfl k) ?_
      refine gb (mkF m 4 #[vr a0, vi 1, vi (fn12A (0 : Int32) [u0, u1] G1 w_sf)] [(.ref a0), (.int 1)]) (fun _ k => XS.aloadN X'.here hx rfl (hb hby d5_3) rfl rfl k) ?_
      obtain ⟨cq4, kq4, q4a, q4b, q4c⟩ := isOf hZ eT pf0
      obtain ⟨_, _, ⟨T4, L4, k4, n4⟩, -, X4, ⟨Lc4, hQ4, l4, y4, z4⟩, st4⟩ := X'.virtualBack hx (y := mq9) (z := mq9) hown (mvT hZ (hW hw 31 rfl)) (mvT hZ (hW hw 32 rfl)) (notFace_of_selects (args := #[]) (mvT hZ (hW hw 34 rfl))) (mvT hZ (hW hw 34 rfl)) (mvT hZ (hW hw 33 rfl)) (by decide) (backOf (W := 1) (rm6 l Z a0' hw [] a0 b (0 : Int32) kb [(.int u0), (.int u1)] (2 : Int32) G1 w_sf h0 n0 O W pf0 pf1 pf2 pf3) hZ (hW hw 35 rfl) (hW hw 8 rfl) (by decide) (by decide)) q4a q4c (g := (mkF m 4 #[vr a0, vi 1, vi (fn12A (0 : Int32) [u0, u1] G1 w_sf)] [(.ref a0), (.int 1)])) rfl (by rw [hml]; rfl) (Steps.refl _) (argsL := []) (rest := [(.int 1)]) (lenOf pd274 rfl) rfl (Nat.le_of_eq rfl) (hb hby d5_4) (fun _ _ => ⟨rfl, eT, (by decide : 0 + 0 ≤ _), (by decide : 0 + 0 ≤ _)⟩)
      dsimp only [Pt.U, Pt.locs, Pt.cells, Pt.slots] at X4 l4 y4 z4 st4 hQ4
      subst l4 y4 z4
      obtain ⟨rfl, N4q, e4⟩ := hQ4
      have N4 := Fr.app N' N4q
      refine gb (mkF m 7 #[vr a0, vi 1, vi (fn12A (0 : Int32) [u0, u1] G1 w_sf)] [(.int ((2 : Int32) >>> (((0 : Int32).toInt8.toInt32) &&& 31))), (.int 1)]) (fun _ k => st4.trans k) ?_
      refine gb (mkF m 10 #[vr a0, vi 1, vi (fn12A (0 : Int32) [u0, u1] G1 w_sf)] []) (fun _ k => XS.icmpNo X4.here hx rfl (hb hby d5_7) rfl (tlt (by decide : (1 : Int32) < ((2 : Int32) >>> (((0 : Int32).toInt8.toInt32) &&& 31)))).2.1 k) ?_
      refine gb (mkF m 11 #[vr a0, vi 1, vi (fn12A (0 : Int32) [u0, u1] G1 w_sf)] [(.ref a0)]) (fun _ k => XS.aloadN X4.here hx rfl (hb hby d5_10) rfl rfl k) ?_
      refine gb (mkF m 12 #[vr a0, vi 1, vi (fn12A (0 : Int32) [u0, u1] G1 w_sf)] [(.int 1), (.ref a0)]) (fun _ k => XS.iloadN X4.here hx rfl (hb hby d5_11) rfl k) ?_
      obtain ⟨cq5, kq5, q5a, q5b, q5c⟩ := isOf hZ e4 pf0
      obtain ⟨_, _, ⟨T5, L5, k5, n5⟩, -, X5, ⟨Lc5, hQ5, l5, y5, z5⟩, st5⟩ := X4.virtualBack hx (y := mq10) (z := mq10) hown (mvT hZ (hW hw 55 rfl)) (mvT hZ (hW hw 56 rfl)) (notFace_of_selects (args := #[]) (mvT hZ (hW hw 58 rfl))) (mvT hZ (hW hw 58 rfl)) (mvT hZ (hW hw 57 rfl)) (by decide) (backOf (W := 0) (rm12A l Z a0' hw [] a0 (1 : Int32) b kb (2 : Int32) [u0, u1] G1 w_sf h0 n0 O W pf0 pf1 pf2 pf3 (by decide) (by decide)) hZ (hW hw 59 rfl) (hW hw 8 rfl) (by decide) (by decide)) q5a q5c (g := (mkF m 12 #[vr a0, vi 1, vi (fn12A (0 : Int32) [u0, u1] G1 w_sf)] [(.int 1), (.ref a0)])) rfl (by rw [hml]; rfl) (Steps.refl _) (argsL := [(.int 1)]) (rest := []) (lenOf pd289 rfl) rfl (Nat.le_of_eq rfl) (hb hby d5_12) (fun _ _ => ⟨rfl, e4, (by decide : 0 + 0 ≤ _), (by decide : 0 + 0 ≤ _)⟩)
      dsimp only [Pt.U, Pt.locs, Pt.cells, Pt.slots] at X5 l5 y5 z5 st5 hQ5
      subst l5 y5 z5
      obtain ⟨rfl, N5q, e5⟩ := hQ5
      have N5 := Fr.app N4 N5q
      refine gb (mkF m 15 #[vr a0, vi 1, vi (fn12A (0 : Int32) [u0, u1] G1 w_sf)] [(.int (fn12A (1 : Int32) [u0, u1] G1 w_sf))]) (fun _ k => st5.trans k) ?_
      refine gb (mkF m 16 #[vr a0, vi 1, vi (fn12A (1 : Int32) [u0, u1] G1 w_sf)] []) (fun _ k => XS.istoreN X5.here hx rfl (hb hby d5_15) rfl (l' := #[vr a0, vi 1, vi (fn12A (1 : Int32) [u0, u1] G1 w_sf)]) rfl k) ?_
      by_cases hB6 : (fn12A (1 : Int32) [u0, u1] G1 w_sf) = (32 : Int32) ∨ (fn12A (1 : Int32) [u0, u1] G1 w_sf) = (9 : Int32)
      · have J6 : ∀ (T' : State) (lc : List Loc) (X' : Stand p l e ({ frames := 4, cells := 0, slots := 0, locals := 53 } : Room) s m #[(.ref a0)] below meth c T' lc 0 0) (eT : T'.heap = h0) (N' : Fr n0 lc), Gl p e below (Pos 0 0 (Q52A Z a0 b kb u0 u1 G1 w_sf h0 n0) s) T' (mkF m 30 #[vr a0, vi 1, vi (fn12A (1 : Int32) [u0, u1] G1 w_sf)] []) := by
          intro T' lc X' eT N'
          refine gb (mkF m 33 #[vr a0, vi 2, vi (fn12A (1 : Int32) [u0, u1] G1 w_sf)] []) (fun _ k => XS.iinc X'.here hx rfl (hb hby d5_30) rfl (l' := #[vr a0, vi 2, vi (fn12A (1 : Int32) [u0, u1] G1 w_sf)]) rfl k) ?_
          refine gb (mkF m 2 #[vr a0, vi 2, vi (fn12A (1 : Int32) [u0, u1] G1 w_sf)] []) (fun _ k => XS.goto X'.here hx rfl (pc0 := 33) (pc' := 2) rfl (hb hby d5_33) (by decide) (by decide) k) ?_
          refine gb (mkF m 3 #[vr a0, vi 2, vi (fn12A (1 : Int32) [u0, u1] G1 w_sf)] [(.int 2)]) (fun _ k => XS.iloadN X'.here hx rfl (hb hby d5_2) rfl k) ?_
          refine gb (mkF m 4 #[vr a0, vi 2, vi (fn12A (1 : Int32) [u0, u1] G1 w_sf)] [(.ref a0), (.int 2)]) (fun _ k => XS.aloadN X'.here hx rfl (hb hby d5_3) rfl rfl k) ?_
          obtain ⟨cq7, kq7, q7a, q7b, q7c⟩ := isOf hZ eT pf0
          obtain ⟨_, _, ⟨T7, L7, k7, n7⟩, -, X7, ⟨Lc7, hQ7, l7, y7, z7⟩, st7⟩ := X'.virtualBack hx (y := mq9) (z := mq9) hown (mvT hZ (hW hw 31 rfl)) (mvT hZ (hW hw 32 rfl)) (notFace_of_selects (args := #[]) (mvT hZ (hW hw 34 rfl))) (mvT hZ (hW hw 34 rfl)) (mvT hZ (hW hw 33 rfl)) (by decide) (backOf (W := 1) (rm6 l Z a0' hw [] a0 b (0 : Int32) kb [(.int u0), (.int u1)] (2 : Int32) G1 w_sf h0 n0 O W pf0 pf1 pf2 pf3) hZ (hW hw 35 rfl) (hW hw 8 rfl) (by decide) (by decide)) q7a q7c (g := (mkF m 4 #[vr a0, vi 2, vi (fn12A (1 : Int32) [u0, u1] G1 w_sf)] [(.ref a0), (.int 2)])) rfl (by rw [hml]; rfl) (Steps.refl _) (argsL := []) (rest := [(.int 2)]) (lenOf pd274 rfl) rfl (Nat.le_of_eq rfl) (hb hby d5_4) (fun _ _ => ⟨rfl, eT, (by decide : 0 + 0 ≤ _), (by decide : 0 + 0 ≤ _)⟩)
          dsimp only [Pt.U, Pt.locs, Pt.cells, Pt.slots] at X7 l7 y7 z7 st7 hQ7
          subst l7 y7 z7
          obtain ⟨rfl, N7q, e7⟩ := hQ7
          have N7 := Fr.app N' N7q
          refine gb (mkF m 7 #[vr a0, vi 2, vi (fn12A (1 : Int32) [u0, u1] G1 w_sf)] [(.int ((2 : Int32) >>> (((0 : Int32).toInt8.toInt32) &&& 31))), (.int 2)]) (fun _ k => st7.trans k) ?_
          refine gb (mkF m 36 #[vr a0, vi 2, vi (fn12A (1 : Int32) [u0, u1] G1 w_sf)] []) (fun _ k => XS.icmpYes X7.here hx rfl (pc0 := 7) (pc' := 36) rfl (hb hby d5_7) rfl (flt (by decide : ¬ ((2 : Int32) < ((2 : Int32) >>> (((0 : Int32).toInt8.toInt32) &&& 31))))).2.1 (by decide) (by decide) k) ?_
          refine gb (mkF m 37 #[vr a0, vi 2, vi (fn12A (1 : Int32) [u0, u1] G1 w_sf)] [(.int 1)]) (fun _ k => XS.iconst X7.here hx rfl (hb hby d5_36) k) ?_
          exact Gl.outN X7 hx hk (t := .boolean) Bd.returns (by simp) (hb hby d5_37) ⟨(congrArg (fun z => some (Value.int z)) (show nar .boolean (1 : Int32) = fn52A u0 u1 G1 w_sf by unfold fn52A; rw [if_pos hB3, if_pos hB6]; try rfl)), N7, e7⟩ (by decide) (by decide)
        rcases hB6 with q6 | q6
        · refine gb (mkF m 17 #[vr a0, vi 1, vi (fn12A (1 : Int32) [u0, u1] G1 w_sf)] [(.int (fn12A (1 : Int32) [u0, u1] G1 w_sf))]) (fun _ k => XS.iloadN X5.here hx rfl (hb hby d5_16) rfl k) ?_
          refine gb (mkF m 19 #[vr a0, vi 1, vi (fn12A (1 : Int32) [u0, u1] G1 w_sf)] [(.int 32), (.int (fn12A (1 : Int32) [u0, u1] G1 w_sf))]) (fun _ k => XS.bipush X5.here hx rfl (hb hby d5_17) k) ?_
          refine gb (mkF m 30 #[vr a0, vi 1, vi (fn12A (1 : Int32) [u0, u1] G1 w_sf)] []) (fun _ k => XS.icmpYes X5.here hx rfl (pc0 := 19) (pc' := 30) rfl (hb hby d5_19) rfl (teq q6).1 (by decide) (by decide) k) ?_
          exact J6 _ _ X5 e5 N5
        · refine gb (mkF m 17 #[vr a0, vi 1, vi (fn12A (1 : Int32) [u0, u1] G1 w_sf)] [(.int (fn12A (1 : Int32) [u0, u1] G1 w_sf))]) (fun _ k => XS.iloadN X5.here hx rfl (hb hby d5_16) rfl k) ?_
          refine gb (mkF m 19 #[vr a0, vi 1, vi (fn12A (1 : Int32) [u0, u1] G1 w_sf)] [(.int 32), (.int (fn12A (1 : Int32) [u0, u1] G1 w_sf))]) (fun _ k => XS.bipush X5.here hx rfl (hb hby d5_17) k) ?_
          refine gb (mkF m 22 #[vr a0, vi 1, vi (fn12A (1 : Int32) [u0, u1] G1 w_sf)] []) (fun _ k => XS.icmpNo X5.here hx rfl (hb hby d5_19) rfl (feq (fun z => absurd (q6.symm.trans z) (by decide))).1 k) ?_
          refine gb (mkF m 23 #[vr a0, vi 1, vi (fn12A (1 : Int32) [u0, u1] G1 w_sf)] [(.int (fn12A (1 : Int32) [u0, u1] G1 w_sf))]) (fun _ k => XS.iloadN X5.here hx rfl (hb hby d5_22) rfl k) ?_
          refine gb (mkF m 25 #[vr a0, vi 1, vi (fn12A (1 : Int32) [u0, u1] G1 w_sf)] [(.int 9), (.int (fn12A (1 : Int32) [u0, u1] G1 w_sf))]) (fun _ k => XS.bipush X5.here hx rfl (hb hby d5_23) k) ?_
          refine gb (mkF m 30 #[vr a0, vi 1, vi (fn12A (1 : Int32) [u0, u1] G1 w_sf)] []) (fun _ k => XS.icmpYes X5.here hx rfl (pc0 := 25) (pc' := 30) rfl (hb hby d5_25) rfl (teq q6).1 (by decide) (by decide) k) ?_
          exact J6 _ _ X5 e5 N5
      · refine gb (mkF m 17 #[vr a0, vi 1, vi (fn12A (1 : Int32) [u0, u1] G1 w_sf)] [(.int (fn12A (1 : Int32) [u0, u1] G1 w_sf))]) (fun _ k => XS.iloadN X5.here hx rfl (hb hby d5_16) rfl k) ?_
        refine gb (mkF m 19 #[vr a0, vi 1, vi (fn12A (1 : Int32) [u0, u1] G1 w_sf)] [(.int 32), (.int (fn12A (1 : Int32) [u0, u1] G1 w_sf))]) (fun _ k => XS.bipush X5.here hx rfl (hb hby d5_17) k) ?_
        refine gb (mkF m 22 #[vr a0, vi 1, vi (fn12A (1 : Int32) [u0, u1] G1 w_sf)] []) (fun _ k => XS.icmpNo X5.here hx rfl (hb hby d5_19) rfl (feq (fun q => hB6 (Or.inl q))).1 k) ?_
        refine gb (mkF m 23 #[vr a0, vi 1, vi (fn12A (1 : Int32) [u0, u1] G1 w_sf)] [(.int (fn12A (1 : Int32) [u0, u1] G1 w_sf))]) (fun _ k => XS.iloadN X5.here hx rfl (hb hby d5_22) rfl k) ?_
        refine gb (mkF m 25 #[vr a0, vi 1, vi (fn12A (1 : Int32) [u0, u1] G1 w_sf)] [(.int 9), (.int (fn12A (1 : Int32) [u0, u1] G1 w_sf))]) (fun _ k => XS.bipush X5.here hx rfl (hb hby d5_23) k) ?_
        refine gb (mkF m 28 #[vr a0, vi 1, vi (fn12A (1 : Int32) [u0, u1] G1 w_sf)] []) (fun _ k => XS.icmpNo X5.here hx rfl (hb hby d5_25) rfl (feq (fun q => hB6 (Or.inr q))).1 k) ?_
        refine gb (mkF m 29 #[vr a0, vi 1, vi (fn12A (1 : Int32) [u0, u1] G1 w_sf)] [(.int 0)]) (fun _ k => XS.iconst X5.here hx rfl (hb hby d5_28) k) ?_
        exact Gl.outN X5 hx hk (t := .boolean) Bd.returns (by simp) (hb hby d5_29) ⟨(congrArg (fun z => some (Value.int z)) (show nar .boolean (0 : Int32) = fn52A u0 u1 G1 w_sf by unfold fn52A; rw [if_pos hB3, if_neg hB6]; try rfl)), N5, e5⟩ (by decide) (by decide)
    rcases hB3 with q3 | q3
    · refine gb (mkF m 17 #[vr a0, vi 0, vi (fn12A (0 : Int32) [u0, u1] G1 w_sf)] [(.int (fn12A (0 : Int32) [u0, u1] G1 w_sf))]) (fun _ k => XS.iloadN X2.here hx rfl (hb hby d5_16) rfl k) ?_
      refine gb (mkF m 19 #[vr a0, vi 0, vi (fn12A (0 : Int32) [u0, u1] G1 w_sf)] [(.int 32), (.int (fn12A (0 : Int32) [u0, u1] G1 w_sf))]) (fun _ k => XS.bipush X2.here hx rfl (hb hby d5_17) k) ?_
      refine gb (mkF m 30 #[vr a0, vi 0, vi (fn12A (0 : Int32) [u0, u1] G1 w_sf)] []) (fun _ k => XS.icmpYes X2.here hx rfl (pc0 := 19) (pc' := 30) rfl (hb hby d5_19) rfl (teq q3).1 (by decide) (by decide) k) ?_
      exact J3 _ _ X2 e2 N2
    · refine gb (mkF m 17 #[vr a0, vi 0, vi (fn12A (0 : Int32) [u0, u1] G1 w_sf)] [(.int (fn12A (0 : Int32) [u0, u1] G1 w_sf))]) (fun _ k => XS.iloadN X2.here hx rfl (hb hby d5_16) rfl k) ?_
      refine gb (mkF m 19 #[vr a0, vi 0, vi (fn12A (0 : Int32) [u0, u1] G1 w_sf)] [(.int 32), (.int (fn12A (0 : Int32) [u0, u1] G1 w_sf))]) (fun _ k => XS.bipush X2.here hx rfl (hb hby d5_17) k) ?_
      refine gb (mkF m 22 #[vr a0, vi 0, vi (fn12A (0 : Int32) [u0, u1] G1 w_sf)] []) (fun _ k => XS.icmpNo X2.here hx rfl (hb hby d5_19) rfl (feq (fun z => absurd (q3.symm.trans z) (by decide))).1 k) ?_
      refine gb (mkF m 23 #[vr a0, vi 0, vi (fn12A (0 : Int32) [u0, u1] G1 w_sf)] [(.int (fn12A (0 : Int32) [u0, u1] G1 w_sf))]) (fun _ k => XS.iloadN X2.here hx rfl (hb hby d5_22) rfl k) ?_
      refine gb (mkF m 25 #[vr a0, vi 0, vi (fn12A (0 : Int32) [u0, u1] G1 w_sf)] [(.int 9), (.int (fn12A (0 : Int32) [u0, u1] G1 w_sf))]) (fun _ k => XS.bipush X2.here hx rfl (hb hby d5_23) k) ?_
      refine gb (mkF m 30 #[vr a0, vi 0, vi (fn12A (0 : Int32) [u0, u1] G1 w_sf)] []) (fun _ k => XS.icmpYes X2.here hx rfl (pc0 := 25) (pc' := 30) rfl (hb hby d5_25) rfl (teq q3).1 (by decide) (by decide) k) ?_
      exact J3 _ _ X2 e2 N2
  · refine gb (mkF m 17 #[vr a0, vi 0, vi (fn12A (0 : Int32) [u0, u1] G1 w_sf)] [(.int (fn12A (0 : Int32) [u0, u1] G1 w_sf))]) (fun _ k => XS.iloadN X2.here hx rfl (hb hby d5_16) rfl k) ?_
    refine gb (mkF m 19 #[vr a0, vi 0, vi (fn12A (0 : Int32) [u0, u1] G1 w_sf)] [(.int 32), (.int (fn12A (0 : Int32) [u0, u1] G1 w_sf))]) (fun _ k => XS.bipush X2.here hx rfl (hb hby d5_17) k) ?_
    refine gb (mkF m 22 #[vr a0, vi 0, vi (fn12A (0 : Int32) [u0, u1] G1 w_sf)] []) (fun _ k => XS.icmpNo X2.here hx rfl (hb hby d5_19) rfl (feq (fun q => hB3 (Or.inl q))).1 k) ?_
    refine gb (mkF m 23 #[vr a0, vi 0, vi (fn12A (0 : Int32) [u0, u1] G1 w_sf)] [(.int (fn12A (0 : Int32) [u0, u1] G1 w_sf))]) (fun _ k => XS.iloadN X2.here hx rfl (hb hby d5_22) rfl k) ?_
    refine gb (mkF m 25 #[vr a0, vi 0, vi (fn12A (0 : Int32) [u0, u1] G1 w_sf)] [(.int 9), (.int (fn12A (0 : Int32) [u0, u1] G1 w_sf))]) (fun _ k => XS.bipush X2.here hx rfl (hb hby d5_23) k) ?_
    refine gb (mkF m 28 #[vr a0, vi 0, vi (fn12A (0 : Int32) [u0, u1] G1 w_sf)] []) (fun _ k => XS.icmpNo X2.here hx rfl (hb hby d5_25) rfl (feq (fun q => hB3 (Or.inr q))).1 k) ?_
    refine gb (mkF m 29 #[vr a0, vi 0, vi (fn12A (0 : Int32) [u0, u1] G1 w_sf)] [(.int 0)]) (fun _ k => XS.iconst X2.here hx rfl (hb hby d5_28) k) ?_
    exact Gl.outN X2 hx hk (t := .boolean) Bd.returns (by simp) (hb hby d5_29) ⟨(congrArg (fun z => some (Value.int z)) (show nar .boolean (0 : Int32) = fn52A u0 u1 G1 w_sf by unfold fn52A; rw [if_neg hB3]; try rfl)), N2, e2⟩ (by decide) (by decide)
theorem ef52U (m : MethodId) (x0 : Addr) : entryFrame m #[(.ref x0)] 3 = mkF m 0 #[.val (.ref x0), .unset, .unset] [] := by first | (simp [entryFrame, mkF, argsToLocals, Value.category]; done) | rfl
def fn52U (u0 : Int32) (u1 : Int32) (u2 : Int32) (u3 : Int32) (G1 : Int32) (w_sf : Value) : Int32 := if (fn12U (0 : Int32) [u0, u1, u2, u3] G1 w_sf) = (32 : Int32) ∨ (fn12U (0 : Int32) [u0, u1, u2, u3] G1 w_sf) = (9 : Int32) then if (fn12U (1 : Int32) [u0, u1, u2, u3] G1 w_sf) = (32 : Int32) ∨ (fn12U (1 : Int32) [u0, u1, u2, u3] G1 w_sf) = (9 : Int32) then (1 : Int32) else (0 : Int32) else (0 : Int32)
def Q52U (Z : State) (a0 : Addr) (b : Addr) (kb : ClassId) (u0 : Int32) (u1 : Int32) (u2 : Int32) (u3 : Int32) (G1 : Int32) (w_sf : Value) (h0 : Heap) (n0 : Nat) (v : Option Value) (h : Heap) (L : List Loc) : Prop := v = some (.int (fn52U u0 u1 u2 u3 G1 w_sf)) ∧ Fr n0 L ∧ h = h0
theorem rm52U (l : Launch) (Z : State) (a0' : Array Value) (hw : ∀ d ∈ tables_1, d.before a0' Z = true) (ws : List Jvm.Cond) (a0 : Addr) (b : Addr) (kb : ClassId) (u0 : Int32) (u1 : Int32) (u2 : Int32) (u3 : Int32) (G1 : Int32) (w_sf : Value) (h0 : Heap) (n0 : Nat) (O : Old Z n0 h0) (W : Wd Z G1 w_sf) (pf0 : Exa Z h0 a0 "java/lang/String") (pf1 : Fld Z h0 a0 "java/lang/String" "value" "[B" (.ref b)) (pf2 : Fld Z h0 a0 "java/lang/String" "coder" "B" (.int 1)) (pf3 : Arv Z h0 b kb .byte (4 : Int32) [(.int u0), (.int u1), (.int u2), (.int u3)] (.int 0)) :
    MetFree l mq20 (head1 (Jvm.Cond.code mq20 prog_66_method_6_code 3 (some .boolean) :: ws) ({ frames := 5, cells := 0, slots := 0, locals := 66 } : Room)) (fun a U => a = #[(.ref a0)] ∧ Z.Warmed39 U.vm ∧ U.heap = h0) (fun _ _ _ _ _ => True) (fun _ U o U' => ∃ v L, o = .returned v ∧ Q52U Z a0 b kb u0 u1 u2 u3 G1 w_sf h0 n0 v U'.heap L ∧ FrameEnd U o U' L ({ frames := 5, cells := 0, slots := 0, locals := 66 } : Room).cells ({ frames := 5, cells := 0, slots := 0, locals := 66 } : Room).slots) := by
  refine MetFree.of_bodySF (plainFor_of_name pn4) hisR ?_
  intro p e s m args below meth c s₁ Bd hml0 hP hK
  obtain ⟨rfl, hZ, hh⟩ := hP
  have hx := Bd.exec
  have hby := Bd.bytes
  have hml : c.maxLocals = 3 := hml0
  have hown : s.vm.findClass "com/example/gatewarden/gatewarden/formats/PhysicalLines" = some m.cls := findClass_of_methodNamed Bd.named
  have hnm := (name_of_methodNamed Bd.named Bd.method).1
  have hk := Bd.notSynchronized
  have X0 : Stand p l e ({ frames := 5, cells := 0, slots := 0, locals := 66 } : Room) s m #[(.ref a0)] below meth c s₁ [] 0 0 := Stand.of_body Bd
  have hh2 := hh
  have e0 : s₁.heap = h0 := by rw [← hh, Bd.state]; rfl
  have N0 := Fr.nil n0
  show Gl p e below (Pos 0 0 (Q52U Z a0 b kb u0 u1 u2 u3 G1 w_sf h0 n0) s) s₁ _
  refine Gl.cast (ef52U m a0) ?_
  refine gb (mkF m 1 #[vr a0, .unset, .unset] [(.int 0)]) (fun _ k => XS.iconst X0.here hx rfl (hb hby d5_0) k) ?_
  refine gb (mkF m 2 #[vr a0, vi 0, .unset] []) (fun _ k => XS.istoreN X0.here hx rfl (hb hby d5_1) rfl (l' := #[vr a0, vi 0, .unset]) rfl k) ?_
  refine gb (mkF m 3 #[vr a0, vi 0, .unset] [(.int 0)]) (fun _ k => XS.iloadN X0.here hx rfl (hb hby d5_2) rfl k) ?_
  refine gb (mkF m 4 #[vr a0, vi 0, .unset] [(.ref a0), (.int 0)]) (fun _ k => XS.aloadN X0.here hx rfl (hb hby d5_3) rfl rfl k) ?_
  obtain ⟨cq1, kq1, q1a, q1b, q1c⟩ := isOf hZ e0 pf0
  obtain ⟨_, _, ⟨T1, L1, k1, n1⟩, -, X1, ⟨Lc1, hQ1, l1, y1, z1⟩, st1⟩ := X0.virtualBack hx (y := mq9) (z := mq9) hown (mvT hZ (hW hw 31 rfl)) (mvT hZ (hW hw 32 rfl)) (notFace_of_selects (args := #[]) (mvT hZ (hW hw 34 rfl))) (mvT hZ (hW hw 34 rfl)) (mvT hZ (hW hw 33 rfl)) (by decide) (backOf (W := 1) (rm6 l Z a0' hw [] a0 b (1 : Int32) kb [(.int u0), (.int u1), (.int u2), (.int u3)] (4 : Int32) G1 w_sf h0 n0 O W pf0 pf1 pf2 pf3) hZ (hW hw 35 rfl) (hW hw 8 rfl) (by decide) (by decide)) q1a q1c (g := (mkF m 4 #[vr a0, vi 0, .unset] [(.ref a0), (.int 0)])) rfl (by rw [hml]; rfl) (Steps.refl _) (argsL := []) (rest := [(.int 0)]) (lenOf pd274 rfl) rfl (Nat.le_of_eq rfl) (hb hby d5_4) (fun _ _ => ⟨rfl, e0, (by decide : 0 + 0 ≤ _), (by decide : 0 + 0 ≤ _)⟩)
  dsimp only [Pt.U, Pt.locs, Pt.cells, Pt.slots] at X1 l1 y1 z1 st1 hQ1
  subst l1 y1 z1
  obtain ⟨rfl, N1q, e1⟩ := hQ1
  have N1 := Fr.app N0 N1q
  refine gb (mkF m 7 #[vr a0, vi 0, .unset] [(.int ((4 : Int32) >>> (((1 : Int32).toInt8.toInt32) &&& 31))), (.int 0)]) (fun _ k => st1.trans k) ?_
  refine gb (mkF m 10 #[vr a0, vi 0, .unset] []) (fun _ k => XS.icmpNo X1.here hx rfl (hb hby d5_7) rfl (tlt (by decide : (0 : Int32) < ((4 : Int32) >>> (((1 : Int32).toInt8.toInt32) &&& 31)))).2.1 k) ?_
  refine gb (mkF m 11 #[vr a0, vi 0, .unset] [(.ref a0)]) (fun _ k => XS.aloadN X1.here hx rfl (hb hby d5_10) rfl rfl k) ?_
  refine gb (mkF m 12 #[vr a0, vi 0, .unset] [(.int 0), (.ref a0)]) (fun _ k => XS.iloadN X1.here hx rfl (hb hby d5_11) rfl k) ?_
  obtain ⟨cq2, kq2, q2a, q2b, q2c⟩ := isOf hZ e1 pf0
  obtain ⟨_, _, ⟨T2, L2, k2, n2⟩, -, X2, ⟨Lc2, hQ2, l2, y2, z2⟩, st2⟩ := X1.virtualBack hx (y := mq10) (z := mq10) hown (mvT hZ (hW hw 55 rfl)) (mvT hZ (hW hw 56 rfl)) (notFace_of_selects (args := #[]) (mvT hZ (hW hw 58 rfl))) (mvT hZ (hW hw 58 rfl)) (mvT hZ (hW hw 57 rfl)) (by decide) (backOf (W := 0) (rm12U l Z a0' hw [] a0 (0 : Int32) b kb (4 : Int32) [u0, u1, u2, u3] G1 w_sf h0 n0 O W pf0 pf1 pf2 pf3 (by decide) (by decide) (by decide) (by decide)) hZ (hW hw 59 rfl) (hW hw 8 rfl) (by decide) (by decide)) q2a q2c (g := (mkF m 12 #[vr a0, vi 0, .unset] [(.int 0), (.ref a0)])) rfl (by rw [hml]; rfl) (Steps.refl _) (argsL := [(.int 0)]) (rest := []) (lenOf pd289 rfl) rfl (Nat.le_of_eq rfl) (hb hby d5_12) (fun _ _ => ⟨rfl, e1, (by decide : 0 + 0 ≤ _), (by decide : 0 + 0 ≤ _)⟩)
  dsimp only [Pt.U, Pt.locs, Pt.cells, Pt.slots] at X2 l2 y2 z2 st2 hQ2
  subst l2 y2 z2
  obtain ⟨rfl, N2q, e2⟩ := hQ2
  have N2 := Fr.app N1 N2q
  refine gb (mkF m 15 #[vr a0, vi 0, .unset] [(.int (fn12U (0 : Int32) [u0, u1, u2, u3] G1 w_sf))]) (fun _ k => st2.trans k) ?_
  refine gb (mkF m 16 #[vr a0, vi 0, vi (fn12U (0 : Int32) [u0, u1, u2, u3] G1 w_sf)] []) (fun _ k => XS.istoreN X2.here hx rfl (hb hby d5_15) rfl (l' := #[vr a0, vi 0, vi (fn12U (0 : Int32) [u0, u1, u2, u3] G1 w_sf)]) rfl k) ?_
  by_cases hB3 : (fn12U (0 : Int32) [u0, u1, u2, u3] G1 w_sf) = (32 : Int32) ∨ (fn12U (0 : Int32) [u0, u1, u2, u3] G1 w_sf) = (9 : Int32)
  · have J3 : ∀ (T' : State) (lc : List Loc) (X' : Stand p l e ({ frames := 5, cells := 0, slots := 0, locals := 66 } : Room) s m #[(.ref a0)] below meth c T' lc 0 0) (eT : T'.heap = h0) (N' : Fr n0 lc), Gl p e below (Pos 0 0 (Q52U Z a0 b kb u0 u1 u2 u3 G1 w_sf h0 n0) s) T' (mkF m 30 #[vr a0, vi 0, vi (fn12U (0 : Int32) [u0, u1, u2, u3] G1 w_sf)] []) := by
      intro T' lc X' eT N'
      refine gb (mkF m 33 #[vr a0, vi 1, vi (fn12U (0 : Int32) [u0, u1, u2, u3] G1 w_sf)] []) (fun _ k => XS.iinc X'.here hx rfl (hb hby d5_30) rfl (l' := #[vr a0, vi 1, vi (fn12U (0 : Int32) [u0, u1, u2, u3] G1 w_sf)]) rfl k) ?_
      refine gb (mkF m 2 #[vr a0, vi 1, vi (fn12U (0 : Int32) [u0, u1, u2, u3] G1 w_sf)] []) (fun _ k => XS.goto X'.here hx rfl (pc0 := 33) (pc' := 2) rfl (hb hby d5_33) (by decide) (by decide) k) ?_
      refine gb (mkF m 3 #[vr a0, vi 1, vi (fn12U (0 : Int32) [u0, u1, u2, u3] G1 w_sf)] [(.int 1)]) (fun _ k => XS.iloadN X'.here hx rfl (hb hby d5_2) rfl k) ?_
      refine gb (mkF m 4 #[vr a0, vi 1, vi (fn12U (0 : Int32) [u0, u1, u2, u3] G1 w_sf)] [(.ref a0), (.int 1)]) (fun _ k => XS.aloadN X'.here hx rfl (hb hby d5_3) rfl rfl k) ?_
      obtain ⟨cq4, kq4, q4a, q4b, q4c⟩ := isOf hZ eT pf0
      obtain ⟨_, _, ⟨T4, L4, k4, n4⟩, -, X4, ⟨Lc4, hQ4, l4, y4, z4⟩, st4⟩ := X'.virtualBack hx (y := mq9) (z := mq9) hown (mvT hZ (hW hw 31 rfl)) (mvT hZ (hW hw 32 rfl)) (notFace_of_selects (args := #[]) (mvT hZ (hW hw 34 rfl))) (mvT hZ (hW hw 34 rfl)) (mvT hZ (hW hw 33 rfl)) (by decide) (backOf (W := 1) (rm6 l Z a0' hw [] a0 b (1 : Int32) kb [(.int u0), (.int u1), (.int u2), (.int u3)] (4 : Int32) G1 w_sf h0 n0 O W pf0 pf1 pf2 pf3) hZ (hW hw 35 rfl) (hW hw 8 rfl) (by decide) (by decide)) q4a q4c (g := (mkF m 4 #[vr a0, vi 1, vi (fn12U (0 : Int32) [u0, u1, u2, u3] G1 w_sf)] [(.ref a0), (.int 1)])) rfl (by rw [hml]; rfl) (Steps.refl _) (argsL := []) (rest := [(.int 1)]) (lenOf pd274 rfl) rfl (Nat.le_of_eq rfl) (hb hby d5_4) (fun _ _ => ⟨rfl, eT, (by decide : 0 + 0 ≤ _), (by decide : 0 + 0 ≤ _)⟩)
      dsimp only [Pt.U, Pt.locs, Pt.cells, Pt.slots] at X4 l4 y4 z4 st4 hQ4
      subst l4 y4 z4
      obtain ⟨rfl, N4q, e4⟩ := hQ4
      have N4 := Fr.app N' N4q
      refine gb (mkF m 7 #[vr a0, vi 1, vi (fn12U (0 : Int32) [u0, u1, u2, u3] G1 w_sf)] [(.int ((4 : Int32) >>> (((1 : Int32).toInt8.toInt32) &&& 31))), (.int 1)]) (fun _ k => st4.trans k) ?_
      refine gb (mkF m 10 #[vr a0, vi 1, vi (fn12U (0 : Int32) [u0, u1, u2, u3] G1 w_sf)] []) (fun _ k => XS.icmpNo X4.here hx rfl (hb hby d5_7) rfl (tlt (by decide : (1 : Int32) < ((4 : Int32) >>> (((1 : Int32).toInt8.toInt32) &&& 31)))).2.1 k) ?_
      refine gb (mkF m 11 #[vr a0, vi 1, vi (fn12U (0 : Int32) [u0, u1, u2, u3] G1 w_sf)] [(.ref a0)]) (fun _ k => XS.aloadN X4.here hx rfl (hb hby d5_10) rfl rfl k) ?_
      refine gb (mkF m 12 #[vr a0, vi 1, vi (fn12U (0 : Int32) [u0, u1, u2, u3] G1 w_sf)] [(.int 1), (.ref a0)]) (fun _ k => XS.iloadN X4.here hx rfl (hb hby d5_11) rfl k) ?_
      obtain ⟨cq5, kq5, q5a, q5b, q5c⟩ := isOf hZ e4 pf0
      obtain ⟨_, _, ⟨T5, L5, k5, n5⟩, -, X5, ⟨Lc5, hQ5, l5, y5, z5⟩, st5⟩ := X4.virtualBack hx (y := mq10) (z := mq10) hown (mvT hZ (hW hw 55 rfl)) (mvT hZ (hW hw 56 rfl)) (notFace_of_selects (args := #[]) (mvT hZ (hW hw 58 rfl))) (mvT hZ (hW hw 58 rfl)) (mvT hZ (hW hw 57 rfl)) (by decide) (backOf (W := 0) (rm12U l Z a0' hw [] a0 (1 : Int32) b kb (4 : Int32) [u0, u1, u2, u3] G1 w_sf h0 n0 O W pf0 pf1 pf2 pf3 (by decide) (by decide) (by decide) (by decide)) hZ (hW hw 59 rfl) (hW hw 8 rfl) (by decide) (by decide)) q5a q5c (g := (mkF m 12 #[vr a0, vi 1, vi (fn12U (0 : Int32) [u0, u1, u2, u3] G1 w_sf)] [(.int 1), (.ref a0)])) rfl (by rw [hml]; rfl) (Steps.refl _) (argsL := [(.int 1)]) (rest := []) (lenOf pd289 rfl) rfl (Nat.le_of_eq rfl) (hb hby d5_12) (fun _ _ => ⟨rfl, e4, (by decide : 0 + 0 ≤ _), (by decide : 0 + 0 ≤ _)⟩)
      dsimp only [Pt.U, Pt.locs, Pt.cells, Pt.slots] at X5 l5 y5 z5 st5 hQ5
      subst l5 y5 z5
      obtain ⟨rfl, N5q, e5⟩ := hQ5
      have N5 := Fr.app N4 N5q
      refine gb (mkF m 15 #[vr a0, vi 1, vi (fn12U (0 : Int32) [u0, u1, u2, u3] G1 w_sf)] [(.int (fn12U (1 : Int32) [u0, u1, u2, u3] G1 w_sf))]) (fun _ k => st5.trans k) ?_
      refine gb (mkF m 16 #[vr a0, vi 1, vi (fn12U (1 : Int32) [u0, u1, u2, u3] G1 w_sf)] []) (fun _ k => XS.istoreN X5.here hx rfl (hb hby d5_15) rfl (l' := #[vr a0, vi 1, vi (fn12U (1 : Int32) [u0, u1, u2, u3] G1 w_sf)]) rfl k) ?_
      by_cases hB6 : (fn12U (1 : Int32) [u0, u1, u2, u3] G1 w_sf) = (32 : Int32) ∨ (fn12U (1 : Int32) [u0, u1, u2, u3] G1 w_sf) = (9 : Int32)
      · have J6 : ∀ (T' : State) (lc : List Loc) (X' : Stand p l e ({ frames := 5, cells := 0, slots := 0, locals := 66 } : Room) s m #[(.ref a0)] below meth c T' lc 0 0) (eT : T'.heap = h0) (N' : Fr n0 lc), Gl p e below (Pos 0 0 (Q52U Z a0 b kb u0 u1 u2 u3 G1 w_sf h0 n0) s) T' (mkF m 30 #[vr a0, vi 1, vi (fn12U (1 : Int32) [u0, u1, u2, u3] G1 w_sf)] []) := by
          intro T' lc X' eT N'
          refine gb (mkF m 33 #[vr a0, vi 2, vi (fn12U (1 : Int32) [u0, u1, u2, u3] G1 w_sf)] []) (fun _ k => XS.iinc X'.here hx rfl (hb hby d5_30) rfl (l' := #[vr a0, vi 2, vi (fn12U (1 : Int32) [u0, u1, u2, u3] G1 w_sf)]) rfl k) ?_
          refine gb (mkF m 2 #[vr a0, vi 2, vi (fn12U (1 : Int32) [u0, u1, u2, u3] G1 w_sf)] []) (fun _ k => XS.goto X'.here hx rfl (pc0 := 33) (pc' := 2) rfl (hb hby d5_33) (by decide) (by decide) k) ?_
          refine gb (mkF m 3 #[vr a0, vi 2, vi (fn12U (1 : Int32) [u0, u1, u2, u3] G1 w_sf)] [(.int 2)]) (fun _ k => XS.iloadN X'.here hx rfl (hb hby d5_2) rfl k) ?_
          refine gb (mkF m 4 #[vr a0, vi 2, vi (fn12U (1 : Int32) [u0, u1, u2, u3] G1 w_sf)] [(.ref a0), (.int 2)]) (fun _ k => XS.aloadN X'.here hx rfl (hb hby d5_3) rfl rfl k) ?_
          obtain ⟨cq7, kq7, q7a, q7b, q7c⟩ := isOf hZ eT pf0
          obtain ⟨_, _, ⟨T7, L7, k7, n7⟩, -, X7, ⟨Lc7, hQ7, l7, y7, z7⟩, st7⟩ := X'.virtualBack hx (y := mq9) (z := mq9) hown (mvT hZ (hW hw 31 rfl)) (mvT hZ (hW hw 32 rfl)) (notFace_of_selects (args := #[]) (mvT hZ (hW hw 34 rfl))) (mvT hZ (hW hw 34 rfl)) (mvT hZ (hW hw 33 rfl)) (by decide) (backOf (W := 1) (rm6 l Z a0' hw [] a0 b (1 : Int32) kb [(.int u0), (.int u1), (.int u2), (.int u3)] (4 : Int32) G1 w_sf h0 n0 O W pf0 pf1 pf2 pf3) hZ (hW hw 35 rfl) (hW hw 8 rfl) (by decide) (by decide)) q7a q7c (g := (mkF m 4 #[vr a0, vi 2, vi (fn12U (1 : Int32) [u0, u1, u2, u3] G1 w_sf)] [(.ref a0), (.int 2)])) rfl (by rw [hml]; rfl) (Steps.refl _) (argsL := []) (rest := [(.int 2)]) (lenOf pd274 rfl) rfl (Nat.le_of_eq rfl) (hb hby d5_4) (fun _ _ => ⟨rfl, eT, (by decide : 0 + 0 ≤ _), (by decide : 0 + 0 ≤ _)⟩)
          dsimp only [Pt.U, Pt.locs, Pt.cells, Pt.slots] at X7 l7 y7 z7 st7 hQ7
          subst l7 y7 z7
          obtain ⟨rfl, N7q, e7⟩ := hQ7
          have N7 := Fr.app N' N7q
          refine gb (mkF m 7 #[vr a0, vi 2, vi (fn12U (1 : Int32) [u0, u1, u2, u3] G1 w_sf)] [(.int ((4 : Int32) >>> (((1 : Int32).toInt8.toInt32) &&& 31))), (.int 2)]) (fun _ k => st7.trans k) ?_
          refine gb (mkF m 36 #[vr a0, vi 2, vi (fn12U (1 : Int32) [u0, u1, u2, u3] G1 w_sf)] []) (fun _ k => XS.icmpYes X7.here hx rfl (pc0 := 7) (pc' := 36) rfl (hb hby d5_7) rfl (flt (by decide : ¬ ((2 : Int32) < ((4 : Int32) >>> (((1 : Int32).toInt8.toInt32) &&& 31))))).2.1 (by decide) (by decide) k) ?_
          refine gb (mkF m 37 #[vr a0, vi 2, vi (fn12U (1 : Int32) [u0, u1, u2, u3] G1 w_sf)] [(.int 1)]) (fun _ k => XS.iconst X7.here hx rfl (hb hby d5_36) k) ?_
          exact Gl.outN X7 hx hk (t := .boolean) Bd.returns (by simp) (hb hby d5_37) ⟨(congrArg (fun z => some (Value.int z)) (show nar .boolean (1 : Int32) = fn52U u0 u1 u2 u3 G1 w_sf by unfold fn52U; rw [if_pos hB3, if_pos hB6]; try rfl)), N7, e7⟩ (by decide) (by decide)
        rcases hB6 with q6 | q6
        · refine gb (mkF m 17 #[vr a0, vi 1, vi (fn12U (1 : Int32) [u0, u1, u2, u3] G1 w_sf)] [(.int (fn12U (1 : Int32) [u0, u1, u2, u3] G1 w_sf))]) (fun _ k => XS.iloadN X5.here hx rfl (hb hby d5_16) rfl k) ?_
          refine gb (mkF m 19 #[vr a0, vi 1, vi (fn12U (1 : Int32) [u0, u1, u2, u3] G1 w_sf)] [(.int 32), (.int (fn12U (1 : Int32) [u0, u1, u2, u3] G1 w_sf))]) (fun _ k => XS.bipush X5.here hx rfl (hb hby d5_17) k) ?_
          refine gb (mkF m 30 #[vr a0, vi 1, vi (fn12U (1 : Int32) [u0, u1, u2, u3] G1 w_sf)] []) (fun _ k => XS.icmpYes X5.here hx rfl (pc0 := 19) (pc' := 30) rfl (hb hby d5_19) rfl (teq q6).1 (by decide) (by decide) k) ?_
          exact J6 _ _ X5 e5 N5
        · refine gb (mkF m 17 #[vr a0, vi 1, vi (fn12U (1 : Int32) [u0, u1, u2, u3] G1 w_sf)] [(.int (fn12U (1 : Int32) [u0, u1, u2, u3] G1 w_sf))]) (fun _ k => XS.iloadN X5.here hx rfl (hb hby d5_16) rfl k) ?_
          refine gb (mkF m 19 #[vr a0, vi 1, vi (fn12U (1 : Int32) [u0, u1, u2, u3] G1 w_sf)] [(.int 32), (.int (fn12U (1 : Int32) [u0, u1, u2, u3] G1 w_sf))]) (fun _ k => XS.bipush X5.here hx rfl (hb hby d5_17) k) ?_
          refine gb (mkF m 22 #[vr a0, vi 1, vi (fn12U (1 : Int32) [u0, u1, u2, u3] G1 w_sf)] []) (fun _ k => XS.icmpNo X5.here hx rfl (hb hby d5_19) rfl (feq (fun z => absurd (q6.symm.trans z) (by decide))).1 k) ?_
          refine gb (mkF m 23 #[vr a0, vi 1, vi (fn12U (1 : Int32) [u0, u1, u2, u3] G1 w_sf)] [(.int (fn12U (1 : Int32) [u0, u1, u2, u3] G1 w_sf))]) (fun _ k => XS.iloadN X5.here hx rfl (hb hby d5_22) rfl k) ?_
          refine gb (mkF m 25 #[vr a0, vi 1, vi (fn12U (1 : Int32) [u0, u1, u2, u3] G1 w_sf)] [(.int 9), (.int (fn12U (1 : Int32) [u0, u1, u2, u3] G1 w_sf))]) (fun _ k => XS.bipush X5.here hx rfl (hb hby d5_23) k) ?_
          refine gb (mkF m 30 #[vr a0, vi 1, vi (fn12U (1 : Int32) [u0, u1, u2, u3] G1 w_sf)] []) (fun _ k => XS.icmpYes X5.here hx rfl (pc0 := 25) (pc' := 30) rfl (hb hby d5_25) rfl (teq q6).1 (by decide) (by decide) k) ?_
          exact J6 _ _ X5 e5 N5
      · refine gb (mkF m 17 #[vr a0, vi 1, vi (fn12U (1 : Int32) [u0, u1, u2, u3] G1 w_sf)] [(.int (fn12U (1 : Int32) [u0, u1, u2, u3] G1 w_sf))]) (fun _ k => XS.iloadN X5.here hx rfl (hb hby d5_16) rfl k) ?_
        refine gb (mkF m 19 #[vr a0, vi 1, vi (fn12U (1 : Int32) [u0, u1, u2, u3] G1 w_sf)] [(.int 32), (.int (fn12U (1 : Int32) [u0, u1, u2, u3] G1 w_sf))]) (fun _ k => XS.bipush X5.here hx rfl (hb hby d5_17) k) ?_
        refine gb (mkF m 22 #[vr a0, vi 1, vi (fn12U (1 : Int32) [u0, u1, u2, u3] G1 w_sf)] []) (fun _ k => XS.icmpNo X5.here hx rfl (hb hby d5_19) rfl (feq (fun q => hB6 (Or.inl q))).1 k) ?_
        refine gb (mkF m 23 #[vr a0, vi 1, vi (fn12U (1 : Int32) [u0, u1, u2, u3] G1 w_sf)] [(.int (fn12U (1 : Int32) [u0, u1, u2, u3] G1 w_sf))]) (fun _ k => XS.iloadN X5.here hx rfl (hb hby d5_22) rfl k) ?_
        refine gb (mkF m 25 #[vr a0, vi 1, vi (fn12U (1 : Int32) [u0, u1, u2, u3] G1 w_sf)] [(.int 9), (.int (fn12U (1 : Int32) [u0, u1, u2, u3] G1 w_sf))]) (fun _ k => XS.bipush X5.here hx rfl (hb hby d5_23) k) ?_
        refine gb (mkF m 28 #[vr a0, vi 1, vi (fn12U (1 : Int32) [u0, u1, u2, u3] G1 w_sf)] []) (fun _ k => XS.icmpNo X5.here hx rfl (hb hby d5_25) rfl (feq (fun q => hB6 (Or.inr q))).1 k) ?_
        refine gb (mkF m 29 #[vr a0, vi 1, vi (fn12U (1 : Int32) [u0, u1, u2, u3] G1 w_sf)] [(.int 0)]) (fun _ k => XS.iconst X5.here hx rfl (hb hby d5_28) k) ?_
        exact Gl.outN X5 hx hk (t := .boolean) Bd.returns (by simp) (hb hby d5_29) ⟨(congrArg (fun z => some (Value.int z)) (show nar .boolean (0 : Int32) = fn52U u0 u1 u2 u3 G1 w_sf by unfold fn52U; rw [if_pos hB3, if_neg hB6]; try rfl)), N5, e5⟩ (by decide) (by decide)
    rcases hB3 with q3 | q3
    · refine gb (mkF m 17 #[vr a0, vi 0, vi (fn12U (0 : Int32) [u0, u1, u2, u3] G1 w_sf)] [(.int (fn12U (0 : Int32) [u0, u1, u2, u3] G1 w_sf))]) (fun _ k => XS.iloadN X2.here hx rfl (hb hby d5_16) rfl k) ?_
      refine gb (mkF m 19 #[vr a0, vi 0, vi (fn12U (0 : Int32) [u0, u1, u2, u3] G1 w_sf)] [(.int 32), (.int (fn12U (0 : Int32) [u0, u1, u2, u3] G1 w_sf))]) (fun _ k => XS.bipush X2.here hx rfl (hb hby d5_17) k) ?_
      refine gb (mkF m 30 #[vr a0, vi 0, vi (fn12U (0 : Int32) [u0, u1, u2, u3] G1 w_sf)] []) (fun _ k => XS.icmpYes X2.here hx rfl (pc0 := 19) (pc' := 30) rfl (hb hby d5_19) rfl (teq q3).1 (by decide) (by decide) k) ?_
      exact J3 _ _ X2 e2 N2
    · refine gb (mkF m 17 #[vr a0, vi 0, vi (fn12U (0 : Int32) [u0, u1, u2, u3] G1 w_sf)] [(.int (fn12U (0 : Int32) [u0, u1, u2, u3] G1 w_sf))]) (fun _ k => XS.iloadN X2.here hx rfl (hb hby d5_16) rfl k) ?_
      refine gb (mkF m 19 #[vr a0, vi 0, vi (fn12U (0 : Int32) [u0, u1, u2, u3] G1 w_sf)] [(.int 32), (.int (fn12U (0 : Int32) [u0, u1, u2, u3] G1 w_sf))]) (fun _ k => XS.bipush X2.here hx rfl (hb hby d5_17) k) ?_
      refine gb (mkF m 22 #[vr a0, vi 0, vi (fn12U (0 : Int32) [u0, u1, u2, u3] G1 w_sf)] []) (fun _ k => XS.icmpNo X2.here hx rfl (hb hby d5_19) rfl (feq (fun z => absurd (q3.symm.trans z) (by decide))).1 k) ?_
      refine gb (mkF m 23 #[vr a0, vi 0, vi (fn12U (0 : Int32) [u0, u1, u2, u3] G1 w_sf)] [(.int (fn12U (0 : Int32) [u0, u1, u2, u3] G1 w_sf))]) (fun _ k => XS.iloadN X2.here hx rfl (hb hby d5_22) rfl k) ?_
      refine gb (mkF m 25 #[vr a0, vi 0, vi (fn12U (0 : Int32) [u0, u1, u2, u3] G1 w_sf)] [(.int 9), (.int (fn12U (0 : Int32) [u0, u1, u2, u3] G1 w_sf))]) (fun _ k => XS.bipush X2.here hx rfl (hb hby d5_23) k) ?_
      refine gb (mkF m 30 #[vr a0, vi 0, vi (fn12U (0 : Int32) [u0, u1, u2, u3] G1 w_sf)] []) (fun _ k => XS.icmpYes X2.here hx rfl (pc0 := 25) (pc' := 30) rfl (hb hby d5_25) rfl (teq q3).1 (by decide) (by decide) k) ?_
      exact J3 _ _ X2 e2 N2
  · refine gb (mkF m 17 #[vr a0, vi 0, vi (fn12U (0 : Int32) [u0, u1, u2, u3] G1 w_sf)] [(.int (fn12U (0 : Int32) [u0, u1, u2, u3] G1 w_sf))]) (fun _ k => XS.iloadN X2.here hx rfl (hb hby d5_16) rfl k) ?_
    refine gb (mkF m 19 #[vr a0, vi 0, vi (fn12U (0 : Int32) [u0, u1, u2, u3] G1 w_sf)] [(.int 32), (.int (fn12U (0 : Int32) [u0, u1, u2, u3] G1 w_sf))]) (fun _ k => XS.bipush X2.here hx rfl (hb hby d5_17) k) ?_
    refine gb (mkF m 22 #[vr a0, vi 0, vi (fn12U (0 : Int32) [u0, u1, u2, u3] G1 w_sf)] []) (fun _ k => XS.icmpNo X2.here hx rfl (hb hby d5_19) rfl (feq (fun q => hB3 (Or.inl q))).1 k) ?_
    refine gb (mkF m 23 #[vr a0, vi 0, vi (fn12U (0 : Int32) [u0, u1, u2, u3] G1 w_sf)] [(.int (fn12U (0 : Int32) [u0, u1, u2, u3] G1 w_sf))]) (fun _ k => XS.iloadN X2.here hx rfl (hb hby d5_22) rfl k) ?_
    refine gb (mkF m 25 #[vr a0, vi 0, vi (fn12U (0 : Int32) [u0, u1, u2, u3] G1 w_sf)] [(.int 9), (.int (fn12U (0 : Int32) [u0, u1, u2, u3] G1 w_sf))]) (fun _ k => XS.bipush X2.here hx rfl (hb hby d5_23) k) ?_
    refine gb (mkF m 28 #[vr a0, vi 0, vi (fn12U (0 : Int32) [u0, u1, u2, u3] G1 w_sf)] []) (fun _ k => XS.icmpNo X2.here hx rfl (hb hby d5_25) rfl (feq (fun q => hB3 (Or.inr q))).1 k) ?_
    refine gb (mkF m 29 #[vr a0, vi 0, vi (fn12U (0 : Int32) [u0, u1, u2, u3] G1 w_sf)] [(.int 0)]) (fun _ k => XS.iconst X2.here hx rfl (hb hby d5_28) k) ?_
    exact Gl.outN X2 hx hk (t := .boolean) Bd.returns (by simp) (hb hby d5_29) ⟨(congrArg (fun z => some (Value.int z)) (show nar .boolean (0 : Int32) = fn52U u0 u1 u2 u3 G1 w_sf by unfold fn52U; rw [if_neg hB3]; try rfl)), N2, e2⟩ (by decide) (by decide)
theorem ef53A (m : MethodId) (x0 : Addr) : entryFrame m #[(.ref x0)] 3 = mkF m 0 #[.val (.ref x0), .unset, .unset] [] := by first | (simp [entryFrame, mkF, argsToLocals, Value.category]; done) | rfl
def fn53A (u0 : Int32) (u1 : Int32) (u2 : Int32) (G1 : Int32) (w_sf : Value) : Int32 := if (fn12A (0 : Int32) [u0, u1, u2] G1 w_sf) = (32 : Int32) ∨ (fn12A (0 : Int32) [u0, u1, u2] G1 w_sf) = (9 : Int32) then if (fn12A (1 : Int32) [u0, u1, u2] G1 w_sf) = (32 : Int32) ∨ (fn12A (1 : Int32) [u0, u1, u2] G1 w_sf) = (9 : Int32) then if (fn12A (2 : Int32) [u0, u1, u2] G1 w_sf) = (32 : Int32) ∨ (fn12A (2 : Int32) [u0, u1, u2] G1 w_sf) = (9 : Int32) then (1 : Int32) else (0 : Int32) else (0 : Int32) else (0 : Int32)
def Q53A (Z : State) (a0 : Addr) (b : Addr) (kb : ClassId) (u0 : Int32) (u1 : Int32) (u2 : Int32) (G1 : Int32) (w_sf : Value) (h0 : Heap) (n0 : Nat) (v : Option Value) (h : Heap) (L : List Loc) : Prop := v = some (.int (fn53A u0 u1 u2 G1 w_sf)) ∧ Fr n0 L ∧ h = h0
theorem rm53A (l : Launch) (Z : State) (a0' : Array Value) (hw : ∀ d ∈ tables_1, d.before a0' Z = true) (ws : List Jvm.Cond) (a0 : Addr) (b : Addr) (kb : ClassId) (u0 : Int32) (u1 : Int32) (u2 : Int32) (G1 : Int32) (w_sf : Value) (h0 : Heap) (n0 : Nat) (O : Old Z n0 h0) (W : Wd Z G1 w_sf) (pf0 : Exa Z h0 a0 "java/lang/String") (pf1 : Fld Z h0 a0 "java/lang/String" "value" "[B" (.ref b)) (pf2 : Fld Z h0 a0 "java/lang/String" "coder" "B" (.int 0)) (pf3 : Arv Z h0 b kb .byte (3 : Int32) [(.int u0), (.int u1), (.int u2)] (.int 0)) :
    MetFree l mq20 (head1 (Jvm.Cond.code mq20 prog_66_method_6_code 3 (some .boolean) :: ws) ({ frames := 4, cells := 0, slots := 0, locals := 53 } : Room)) (fun a U => a = #[(.ref a0)] ∧ Z.Warmed39 U.vm ∧ U.heap = h0) (fun _ _ _ _ _ => True) (fun _ U o U' => ∃ v L, o = .returned v ∧ Q53A Z a0 b kb u0 u1 u2 G1 w_sf h0 n0 v U'.heap L ∧ FrameEnd U o U' L ({ frames := 4, cells := 0, slots := 0, locals := 53 } : Room).cells ({ frames := 4, cells := 0, slots := 0, locals := 53 } : Room).slots) := by
  refine MetFree.of_bodySF (plainFor_of_name pn4) hisR ?_
  intro p e s m args below meth c s₁ Bd hml0 hP hK
  obtain ⟨rfl, hZ, hh⟩ := hP
  have hx := Bd.exec
  have hby := Bd.bytes
  have hml : c.maxLocals = 3 := hml0
  have hown : s.vm.findClass "com/example/gatewarden/gatewarden/formats/PhysicalLines" = some m.cls := findClass_of_methodNamed Bd.named
  have hnm := (name_of_methodNamed Bd.named Bd.method).1
  have hk := Bd.notSynchronized
  have X0 : Stand p l e ({ frames := 4, cells := 0, slots := 0, locals := 53 } : Room) s m #[(.ref a0)] below meth c s₁ [] 0 0 := Stand.of_body Bd
  have hh2 := hh
  have e0 : s₁.heap = h0 := by rw [← hh, Bd.state]; rfl
  have N0 := Fr.nil n0
  show Gl p e below (Pos 0 0 (Q53A Z a0 b kb u0 u1 u2 G1 w_sf h0 n0) s) s₁ _
  refine Gl.cast (ef53A m a0) ?_
  refine gb (mkF m 1 #[vr a0, .unset, .unset] [(.int 0)]) (fun _ k => XS.iconst X0.here hx rfl (hb hby d5_0) k) ?_
  refine gb (mkF m 2 #[vr a0, vi 0, .unset] []) (fun _ k => XS.istoreN X0.here hx rfl (hb hby d5_1) rfl (l' := #[vr a0, vi 0, .unset]) rfl k) ?_
  refine gb (mkF m 3 #[vr a0, vi 0, .unset] [(.int 0)]) (fun _ k => XS.iloadN X0.here hx rfl (hb hby d5_2) rfl k) ?_
  refine gb (mkF m 4 #[vr a0, vi 0, .unset] [(.ref a0), (.int 0)]) (fun _ k => XS.aloadN X0.here hx rfl (hb hby d5_3) rfl rfl k) ?_
  obtain ⟨cq1, kq1, q1a, q1b, q1c⟩ := isOf hZ e0 pf0
  obtain ⟨_, _, ⟨T1, L1, k1, n1⟩, -, X1, ⟨Lc1, hQ1, l1, y1, z1⟩, st1⟩ := X0.virtualBack hx (y := mq9) (z := mq9) hown (mvT hZ (hW hw 31 rfl)) (mvT hZ (hW hw 32 rfl)) (notFace_of_selects (args := #[]) (mvT hZ (hW hw 34 rfl))) (mvT hZ (hW hw 34 rfl)) (mvT hZ (hW hw 33 rfl)) (by decide) (backOf (W := 1) (rm6 l Z a0' hw [] a0 b (0 : Int32) kb [(.int u0), (.int u1), (.int u2)] (3 : Int32) G1 w_sf h0 n0 O W pf0 pf1 pf2 pf3) hZ (hW hw 35 rfl) (hW hw 8 rfl) (by decide) (by decide)) q1a q1c (g := (mkF m 4 #[vr a0, vi 0, .unset] [(.ref a0), (.int 0)])) rfl (by rw [hml]; rfl) (Steps.refl _) (argsL := []) (rest := [(.int 0)]) (lenOf pd274 rfl) rfl (Nat.le_of_eq rfl) (hb hby d5_4) (fun _ _ => ⟨rfl, e0, (by decide : 0 + 0 ≤ _), (by decide : 0 + 0 ≤ _)⟩)
  dsimp only [Pt.U, Pt.locs, Pt.cells, Pt.slots] at X1 l1 y1 z1 st1 hQ1
  subst l1 y1 z1
  obtain ⟨rfl, N1q, e1⟩ := hQ1
  have N1 := Fr.app N0 N1q
  refine gb (mkF m 7 #[vr a0, vi 0, .unset] [(.int ((3 : Int32) >>> (((0 : Int32).toInt8.toInt32) &&& 31))), (.int 0)]) (fun _ k => st1.trans k) ?_
  refine gb (mkF m 10 #[vr a0, vi 0, .unset] []) (fun _ k => XS.icmpNo X1.here hx rfl (hb hby d5_7) rfl (tlt (by decide : (0 : Int32) < ((3 : Int32) >>> (((0 : Int32).toInt8.toInt32) &&& 31)))).2.1 k) ?_
  refine gb (mkF m 11 #[vr a0, vi 0, .unset] [(.ref a0)]) (fun _ k => XS.aloadN X1.here hx rfl (hb hby d5_10) rfl rfl k) ?_
  refine gb (mkF m 12 #[vr a0, vi 0, .unset] [(.int 0), (.ref a0)]) (fun _ k => XS.iloadN X1.here hx rfl (hb hby d5_11) rfl k) ?_
  obtain ⟨cq2, kq2, q2a, q2b, q2c⟩ := isOf hZ e1 pf0
  obtain ⟨_, _, ⟨T2, L2, k2, n2⟩, -, X2, ⟨Lc2, hQ2, l2, y2, z2⟩, st2⟩ := X1.virtualBack hx (y := mq10) (z := mq10) hown (mvT hZ (hW hw 55 rfl)) (mvT hZ (hW hw 56 rfl)) (notFace_of_selects (args := #[]) (mvT hZ (hW hw 58 rfl))) (mvT hZ (hW hw 58 rfl)) (mvT hZ (hW hw 57 rfl)) (by decide) (backOf (W := 0) (rm12A l Z a0' hw [] a0 (0 : Int32) b kb (3 : Int32) [u0, u1, u2] G1 w_sf h0 n0 O W pf0 pf1 pf2 pf3 (by decide) (by decide)) hZ (hW hw 59 rfl) (hW hw 8 rfl) (by decide) (by decide)) q2a q2c (g := (mkF m 12 #[vr a0, vi 0, .unset] [(.int 0), (.ref a0)])) rfl (by rw [hml]; rfl) (Steps.refl _) (argsL := [(.int 0)]) (rest := []) (lenOf pd289 rfl) rfl (Nat.le_of_eq rfl) (hb hby d5_12) (fun _ _ => ⟨rfl, e1, (by decide : 0 + 0 ≤ _), (by decide : 0 + 0 ≤ _)⟩)
  dsimp only [Pt.U, Pt.locs, Pt.cells, Pt.slots] at X2 l2 y2 z2 st2 hQ2
  subst l2 y2 z2
  obtain ⟨rfl, N2q, e2⟩ := hQ2
  have N2 := Fr.app N1 N2q
  refine gb (mkF m 15 #[vr a0, vi 0, .unset] [(.int (fn12A (0 : Int32) [u0, u1, u2] G1 w_sf))]) (fun _ k => st2.trans k) ?_
  refine gb (mkF m 16 #[vr a0, vi 0, vi (fn12A (0 : Int32) [u0, u1, u2] G1 w_sf)] []) (fun _ k => XS.istoreN X2.here hx rfl (hb hby d5_15) rfl (l' := #[vr a0, vi 0, vi (fn12A (0 : Int32) [u0, u1, u2] G1 w_sf)]) rfl k) ?_
  by_cases hB3 : (fn12A (0 : Int32) [u0, u1, u2] G1 w_sf) = (32 : Int32) ∨ (fn12A (0 : Int32) [u0, u1, u2] G1 w_sf) = (9 : Int32)
  · have J3 : ∀ (T' : State) (lc : List Loc) (X' : Stand p l e ({ frames := 4, cells := 0, slots := 0, locals := 53 } : Room) s m #[(.ref a0)] below meth c T' lc 0 0) (eT : T'.heap = h0) (N' : Fr n0 lc), Gl p e below (Pos 0 0 (Q53A Z a0 b kb u0 u1 u2 G1 w_sf h0 n0) s) T' (mkF m 30 #[vr a0, vi 0, vi (fn12A (0 : Int32) [u0, u1, u2] G1 w_sf)] []) := by
      intro T' lc X' eT N'
      refine gb (mkF m 33 #[vr a0, vi 1, vi (fn12A (0 : Int32) [u0, u1, u2] G1 w_sf)] []) (fun _ k => XS.iinc X'.here hx rfl (hb hby d5_30) rfl (l' := #[vr a0, vi 1, vi (fn12A (0 : Int32) [u0, u1, u2] G1 w_sf)]) rfl k) ?_
      refine gb (mkF m 2 #[vr a0, vi 1, vi (fn12A (0 : Int32) [u0, u1, u2] G1 w_sf)] []) (fun _ k => XS.goto X'.here hx rfl (pc0 := 33) (pc' := 2) rfl (hb hby d5_33) (by decide) (by decide) k) ?_
      refine gb (mkF m 3 #[vr a0, vi 1, vi (fn12A (0 : Int32) [u0, u1, u2] G1 w_sf)] [(.int 1)]) (fun _ k => XS.iloadN X'.here hx rfl (hb hby d5_2) rfl k) ?_
      refine gb (mkF m 4 #[vr a0, vi 1, vi (fn12A (0 : Int32) [u0, u1, u2] G1 w_sf)] [(.ref a0), (.int 1)]) (fun _ k => XS.aloadN X'.here hx rfl (hb hby d5_3) rfl rfl k) ?_
      obtain ⟨cq4, kq4, q4a, q4b, q4c⟩ := isOf hZ eT pf0
      obtain ⟨_, _, ⟨T4, L4, k4, n4⟩, -, X4, ⟨Lc4, hQ4, l4, y4, z4⟩, st4⟩ := X'.virtualBack hx (y := mq9) (z := mq9) hown (mvT hZ (hW hw 31 rfl)) (mvT hZ (hW hw 32 rfl)) (notFace_of_selects (args := #[]) (mvT hZ (hW hw 34 rfl))) (mvT hZ (hW hw 34 rfl)) (mvT hZ (hW hw 33 rfl)) (by decide) (backOf (W := 1) (rm6 l Z a0' hw [] a0 b (0 : Int32) kb [(.int u0), (.int u1), (.int u2)] (3 : Int32) G1 w_sf h0 n0 O W pf0 pf1 pf2 pf3) hZ (hW hw 35 rfl) (hW hw 8 rfl) (by decide) (by decide)) q4a q4c (g := (mkF m 4 #[vr a0, vi 1, vi (fn12A (0 : Int32) [u0, u1, u2] G1 w_sf)] [(.ref a0), (.int 1)])) rfl (by rw [hml]; rfl) (Steps.refl _) (argsL := []) (rest := [(.int 1)]) (lenOf pd274 rfl) rfl (Nat.le_of_eq rfl) (hb hby d5_4) (fun _ _ => ⟨rfl, eT, (by decide : 0 + 0 ≤ _), (by decide : 0 + 0 ≤ _)⟩)
      dsimp only [Pt.U, Pt.locs, Pt.cells, Pt.slots] at X4 l4 y4 z4 st4 hQ4
      subst l4 y4 z4
      obtain ⟨rfl, N4q, e4⟩ := hQ4
      have N4 := Fr.app N' N4q
      refine gb (mkF m 7 #[vr a0, vi 1, vi (fn12A (0 : Int32) [u0, u1, u2] G1 w_sf)] [(.int ((3 : Int32) >>> (((0 : Int32).toInt8.toInt32) &&& 31))), (.int 1)]) (fun _ k => st4.trans k) ?_
      refine gb (mkF m 10 #[vr a0, vi 1, vi (fn12A (0 : Int32) [u0, u1, u2] G1 w_sf)] []) (fun _ k => XS.icmpNo X4.here hx rfl (hb hby d5_7) rfl (tlt (by decide : (1 : Int32) < ((3 : Int32) >>> (((0 : Int32).toInt8.toInt32) &&& 31)))).2.1 k) ?_
      refine gb (mkF m 11 #[vr a0, vi 1, vi (fn12A (0 : Int32) [u0, u1, u2] G1 w_sf)] [(.ref a0)]) (fun _ k => XS.aloadN X4.here hx rfl (hb hby d5_10) rfl rfl k) ?_
      refine gb (mkF m 12 #[vr a0, vi 1, vi (fn12A (0 : Int32) [u0, u1, u2] G1 w_sf)] [(.int 1), (.ref a0)]) (fun _ k => XS.iloadN X4.here hx rfl (hb hby d5_11) rfl k) ?_
      obtain ⟨cq5, kq5, q5a, q5b, q5c⟩ := isOf hZ e4 pf0
      obtain ⟨_, _, ⟨T5, L5, k5, n5⟩, -, X5, ⟨Lc5, hQ5, l5, y5, z5⟩, st5⟩ := X4.virtualBack hx (y := mq10) (z := mq10) hown (mvT hZ (hW hw 55 rfl)) (mvT hZ (hW hw 56 rfl)) (notFace_of_selects (args := #[]) (mvT hZ (hW hw 58 rfl))) (mvT hZ (hW hw 58 rfl)) (mvT hZ (hW hw 57 rfl)) (by decide) (backOf (W := 0) (rm12A l Z a0' hw [] a0 (1 : Int32) b kb (3 : Int32) [u0, u1, u2] G1 w_sf h0 n0 O W pf0 pf1 pf2 pf3 (by decide) (by decide)) hZ (hW hw 59 rfl) (hW hw 8 rfl) (by decide) (by decide)) q5a q5c (g := (mkF m 12 #[vr a0, vi 1, vi (fn12A (0 : Int32) [u0, u1, u2] G1 w_sf)] [(.int 1), (.ref a0)])) rfl (by rw [hml]; rfl) (Steps.refl _) (argsL := [(.int 1)]) (rest := []) (lenOf pd289 rfl) rfl (Nat.le_of_eq rfl) (hb hby d5_12) (fun _ _ => ⟨rfl, e4, (by decide : 0 + 0 ≤ _), (by decide : 0 + 0 ≤ _)⟩)
      dsimp only [Pt.U, Pt.locs, Pt.cells, Pt.slots] at X5 l5 y5 z5 st5 hQ5
      subst l5 y5 z5
      obtain ⟨rfl, N5q, e5⟩ := hQ5
      have N5 := Fr.app N4 N5q
      refine gb (mkF m 15 #[vr a0, vi 1, vi (fn12A (0 : Int32) [u0, u1, u2] G1 w_sf)] [(.int (fn12A (1 : Int32) [u0, u1, u2] G1 w_sf))]) (fun _ k => st5.trans k) ?_
      refine gb (mkF m 16 #[vr a0, vi 1, vi (fn12A (1 : Int32) [u0, u1, u2] G1 w_sf)] []) (fun _ k => XS.istoreN X5.here hx rfl (hb hby d5_15) rfl (l' := #[vr a0, vi 1, vi (fn12A (1 : Int32) [u0, u1, u2] G1 w_sf)]) rfl k) ?_
      by_cases hB6 : (fn12A (1 : Int32) [u0, u1, u2] G1 w_sf) = (32 : Int32) ∨ (fn12A (1 : Int32) [u0, u1, u2] G1 w_sf) = (9 : Int32)
      · have J6 : ∀ (T' : State) (lc : List Loc) (X' : Stand p l e ({ frames := 4, cells := 0, slots := 0, locals := 53 } : Room) s m #[(.ref a0)] below meth c T' lc 0 0) (eT : T'.heap = h0) (N' : Fr n0 lc), Gl p e below (Pos 0 0 (Q53A Z a0 b kb u0 u1 u2 G1 w_sf h0 n0) s) T' (mkF m 30 #[vr a0, vi 1, vi (fn12A (1 : Int32) [u0, u1, u2] G1 w_sf)] []) := by
          intro T' lc X' eT N'
          refine gb (mkF m 33 #[vr a0, vi 2, vi (fn12A (1 : Int32) [u0, u1, u2] G1 w_sf)] []) (fun _ k => XS.iinc X'.here hx rfl (hb hby d5_30) rfl (l' := #[vr a0, vi 2, vi (fn12A (1 : Int32) [u0, u1, u2] G1 w_sf)]) rfl k) ?_
          refine gb (mkF m 2 #[vr a0, vi 2, vi (fn12A (1 : Int32) [u0, u1, u2] G1 w_sf)] []) (fun _ k => XS.goto X'.here hx rfl (pc0 := 33) (pc' := 2) rfl (hb hby d5_33) (by decide) (by decide) k) ?_
          refine gb (mkF m 3 #[vr a0, vi 2, vi (fn12A (1 : Int32) [u0, u1, u2] G1 w_sf)] [(.int 2)]) (fun _ k => XS.iloadN X'.here hx rfl (hb hby d5_2) rfl k) ?_
          refine gb (mkF m 4 #[vr a0, vi 2, vi (fn12A (1 : Int32) [u0, u1, u2] G1 w_sf)] [(.ref a0), (.int 2)]) (fun _ k => XS.aloadN X'.here hx rfl (hb hby d5_3) rfl rfl k) ?_
          obtain ⟨cq7, kq7, q7a, q7b, q7c⟩ := isOf hZ eT pf0
          obtain ⟨_, _, ⟨T7, L7, k7, n7⟩, -, X7, ⟨Lc7, hQ7, l7, y7, z7⟩, st7⟩ := X'.virtualBack hx (y := mq9) (z := mq9) hown (mvT hZ (hW hw 31 rfl)) (mvT hZ (hW hw 32 rfl)) (notFace_of_selects (args := #[]) (mvT hZ (hW hw 34 rfl))) (mvT hZ (hW hw 34 rfl)) (mvT hZ (hW hw 33 rfl)) (by decide) (backOf (W := 1) (rm6 l Z a0' hw [] a0 b (0 : Int32) kb [(.int u0), (.int u1), (.int u2)] (3 : Int32) G1 w_sf h0 n0 O W pf0 pf1 pf2 pf3) hZ (hW hw 35 rfl) (hW hw 8 rfl) (by decide) (by decide)) q7a q7c (g := (mkF m 4 #[vr a0, vi 2, vi (fn12A (1 : Int32) [u0, u1, u2] G1 w_sf)] [(.ref a0), (.int 2)])) rfl (by rw [hml]; rfl) (Steps.refl _) (argsL := []) (rest := [(.int 2)]) (lenOf pd274 rfl) rfl (Nat.le_of_eq rfl) (hb hby d5_4) (fun _ _ => ⟨rfl, eT, (by decide : 0 + 0 ≤ _), (by decide : 0 + 0 ≤ _)⟩)
          dsimp only [Pt.U, Pt.locs, Pt.cells, Pt.slots] at X7 l7 y7 z7 st7 hQ7
          subst l7 y7 z7
          obtain ⟨rfl, N7q, e7⟩ := hQ7
          have N7 := Fr.app N' N7q
          refine gb (mkF m 7 #[vr a0, vi 2, vi (fn12A (1 : Int32) [u0, u1, u2] G1 w_sf)] [(.int ((3 : Int32) >>> (((0 : Int32).toInt8.toInt32) &&& 31))), (.int 2)]) (fun _ k => st7.trans k) ?_
          refine gb (mkF m 10 #[vr a0, vi 2, vi (fn12A (1 : Int32) [u0, u1, u2] G1 w_sf)] []) (fun _ k => XS.icmpNo X7.here hx rfl (hb hby d5_7) rfl (tlt (by decide : (2 : Int32) < ((3 : Int32) >>> (((0 : Int32).toInt8.toInt32) &&& 31)))).2.1 k) ?_
          refine gb (mkF m 11 #[vr a0, vi 2, vi (fn12A (1 : Int32) [u0, u1, u2] G1 w_sf)] [(.ref a0)]) (fun _ k => XS.aloadN X7.here hx rfl (hb hby d5_10) rfl rfl k) ?_
          refine gb (mkF m 12 #[vr a0, vi 2, vi (fn12A (1 : Int32) [u0, u1, u2] G1 w_sf)] [(.int 2), (.ref a0)]) (fun _ k => XS.iloadN X7.here hx rfl (hb hby d5_11) rfl k) ?_
          obtain ⟨cq8, kq8, q8a, q8b, q8c⟩ := isOf hZ e7 pf0
          obtain ⟨_, _, ⟨T8, L8, k8, n8⟩, -, X8, ⟨Lc8, hQ8, l8, y8, z8⟩, st8⟩ := X7.virtualBack hx (y := mq10) (z := mq10) hown (mvT hZ (hW hw 55 rfl)) (mvT hZ (hW hw 56 rfl)) (notFace_of_selects (args := #[]) (mvT hZ (hW hw 58 rfl))) (mvT hZ (hW hw 58 rfl)) (mvT hZ (hW hw 57 rfl)) (by decide) (backOf (W := 0) (rm12A l Z a0' hw [] a0 (2 : Int32) b kb (3 : Int32) [u0, u1, u2] G1 w_sf h0 n0 O W pf0 pf1 pf2 pf3 (by decide) (by decide)) hZ (hW hw 59 rfl) (hW hw 8 rfl) (by decide) (by decide)) q8a q8c (g := (mkF m 12 #[vr a0, vi 2, vi (fn12A (1 : Int32) [u0, u1, u2] G1 w_sf)] [(.int 2), (.ref a0)])) rfl (by rw [hml]; rfl) (Steps.refl _) (argsL := [(.int 2)]) (rest := []) (lenOf pd289 rfl) rfl (Nat.le_of_eq rfl) (hb hby d5_12) (fun _ _ => ⟨rfl, e7, (by decide : 0 + 0 ≤ _), (by decide : 0 + 0 ≤ _)⟩)
          dsimp only [Pt.U, Pt.locs, Pt.cells, Pt.slots] at X8 l8 y8 z8 st8 hQ8
          subst l8 y8 z8
          obtain ⟨rfl, N8q, e8⟩ := hQ8
          have N8 := Fr.app N7 N8q
          refine gb (mkF m 15 #[vr a0, vi 2, vi (fn12A (1 : Int32) [u0, u1, u2] G1 w_sf)] [(.int (fn12A (2 : Int32) [u0, u1, u2] G1 w_sf))]) (fun _ k => st8.trans k) ?_
          refine gb (mkF m 16 #[vr a0, vi 2, vi (fn12A (2 : Int32) [u0, u1, u2] G1 w_sf)] []) (fun _ k => XS.istoreN X8.here hx rfl (hb hby d5_15) rfl (l' := #[vr a0, vi 2, vi (fn12A (2 : Int32) [u0, u1, u2] G1 w_sf)]) rfl k) ?_
          by_cases hB9 : (fn12A (2 : Int32) [u0, u1, u2] G1 w_sf) = (32 : Int32) ∨ (fn12A (2 : Int32) [u0, u1, u2] G1 w_sf) = (9 : Int32)
          · have J9 : ∀ (T' : State) (lc : List Loc) (X' : Stand p l e ({ frames := 4, cells := 0, slots := 0, locals := 53 } : Room) s m #[(.ref a0)] below meth c T' lc 0 0) (eT : T'.heap = h0) (N' : Fr n0 lc), Gl p e below (Pos 0 0 (Q53A Z a0 b kb u0 u1 u2 G1 w_sf h0 n0) s) T' (mkF m 30 #[vr a0, vi 2, vi (fn12A (2 : Int32) [u0, u1, u2] G1 w_sf)] []) := by
              intro T' lc X' eT N'
              refine gb (mkF m 33 #[vr a0, vi 3, vi (fn12A (2 : Int32) [u0, u1, u2] G1 w_sf)] []) (fun _ k => XS.iinc X'.here hx rfl (hb hby d5_30) rfl (l' := #[vr a0, vi 3, vi (fn12A (2 : Int32) [u0, u1, u2] G1 w_sf)]) rfl k) ?_
              refine gb (mkF m 2 #[vr a0, vi 3, vi (fn12A (2 : Int32) [u0, u1, u2] G1 w_sf)] []) (fun _ k => XS.goto X'.here hx rfl (pc0 := 33) (pc' := 2) rfl (hb hby d5_33) (by decide) (by decide) k) ?_
              refine gb (mkF m 3 #[vr a0, vi 3, vi (fn12A (2 : Int32) [u0, u1, u2] G1 w_sf)] [(.int 3)]) (fun _ k => XS.iloadN X'.here hx rfl (hb hby d5_2) rfl k) ?_
              refine gb (mkF m 4 #[vr a0, vi 3, vi (fn12A (2 : Int32) [u0, u1, u2] G1 w_sf)] [(.ref a0), (.int 3)]) (fun _ k => XS.aloadN X'.here hx rfl (hb hby d5_3) rfl rfl k) ?_
              obtain ⟨cq10, kq10, q10a, q10b, q10c⟩ := isOf hZ eT pf0
              obtain ⟨_, _, ⟨T10, L10, k10, n10⟩, -, X10, ⟨Lc10, hQ10, l10, y10, z10⟩, st10⟩ := X'.virtualBack hx (y := mq9) (z := mq9) hown (mvT hZ (hW hw 31 rfl)) (mvT hZ (hW hw 32 rfl)) (notFace_of_selects (args := #[]) (mvT hZ (hW hw 34 rfl))) (mvT hZ (hW hw 34 rfl)) (mvT hZ (hW hw 33 rfl)) (by decide) (backOf (W := 1) (rm6 l Z a0' hw [] a0 b (0 : Int32) kb [(.int u0), (.int u1), (.int u2)] (3 : Int32) G1 w_sf h0 n0 O W pf0 pf1 pf2 pf3) hZ (hW hw 35 rfl) (hW hw 8 rfl) (by decide) (by decide)) q10a q10c (g := (mkF m 4 #[vr a0, vi 3, vi (fn12A (2 : Int32) [u0, u1, u2] G1 w_sf)] [(.ref a0), (.int 3)])) rfl (by rw [hml]; rfl) (Steps.refl _) (argsL := []) (rest := [(.int 3)]) (lenOf pd274 rfl) rfl (Nat.le_of_eq rfl) (hb hby d5_4) (fun _ _ => ⟨rfl, eT, (by decide : 0 + 0 ≤ _), (by decide : 0 + 0 ≤ _)⟩)
              dsimp only [Pt.U, Pt.locs, Pt.cells, Pt.slots] at X10 l10 y10 z10 st10 hQ10
              subst l10 y10 z10
              obtain ⟨rfl, N10q, e10⟩ := hQ10
              have N10 := Fr.app N' N10q
              refine gb (mkF m 7 #[vr a0, vi 3, vi (fn12A (2 : Int32) [u0, u1, u2] G1 w_sf)] [(.int ((3 : Int32) >>> (((0 : Int32).toInt8.toInt32) &&& 31))), (.int 3)]) (fun _ k => st10.trans k) ?_
              refine gb (mkF m 36 #[vr a0, vi 3, vi (fn12A (2 : Int32) [u0, u1, u2] G1 w_sf)] []) (fun _ k => XS.icmpYes X10.here hx rfl (pc0 := 7) (pc' := 36) rfl (hb hby d5_7) rfl (flt (by decide : ¬ ((3 : Int32) < ((3 : Int32) >>> (((0 : Int32).toInt8.toInt32) &&& 31))))).2.1 (by decide) (by decide) k) ?_
              refine gb (mkF m 37 #[vr a0, vi 3, vi (fn12A (2 : Int32) [u0, u1, u2] G1 w_sf)] [(.int 1)]) (fun _ k => XS.iconst X10.here hx rfl (hb hby d5_36) k) ?_
              exact Gl.outN X10 hx hk (t := .boolean) Bd.returns (by simp) (hb hby d5_37) ⟨(congrArg (fun z => some (Value.int z)) (show nar .boolean (1 : Int32) = fn53A u0 u1 u2 G1 w_sf by unfold fn53A; rw [if_pos hB3, if_pos hB6, if_pos hB9]; try rfl)), N10, e10⟩ (by decide) (by decide)
            rcases hB9 with q9 | q9
            · refine gb (mkF m 17 #[vr a0, vi 2, vi (fn12A (2 : Int32) [u0, u1, u2] G1 w_sf)] [(.int (fn12A (2 : Int32) [u0, u1, u2] G1 w_sf))]) (fun _ k => XS.iloadN X8.here hx rfl (hb hby d5_16) rfl k) ?_
              refine gb (mkF m 19 #[vr a0, vi 2, vi (fn12A (2 : Int32) [u0, u1, u2] G1 w_sf)] [(.int 32), (.int (fn12A (2 : Int32) [u0, u1, u2] G1 w_sf))]) (fun _ k => XS.bipush X8.here hx rfl (hb hby d5_17) k) ?_
              refine gb (mkF m 30 #[vr a0, vi 2, vi (fn12A (2 : Int32) [u0, u1, u2] G1 w_sf)] []) (fun _ k => XS.icmpYes X8.here hx rfl (pc0 := 19) (pc' := 30) rfl (hb hby d5_19) rfl (teq q9).1 (by decide) (by decide) k) ?_
              exact J9 _ _ X8 e8 N8
            · refine gb (mkF m 17 #[vr a0, vi 2, vi (fn12A (2 : Int32) [u0, u1, u2] G1 w_sf)] [(.int (fn12A (2 : Int32) [u0, u1, u2] G1 w_sf))]) (fun _ k => XS.iloadN X8.here hx rfl (hb hby d5_16) rfl k) ?_
              refine gb (mkF m 19 #[vr a0, vi 2, vi (fn12A (2 : Int32) [u0, u1, u2] G1 w_sf)] [(.int 32), (.int (fn12A (2 : Int32) [u0, u1, u2] G1 w_sf))]) (fun _ k => XS.bipush X8.here hx rfl (hb hby d5_17) k) ?_
              refine gb (mkF m 22 #[vr a0, vi 2, vi (fn12A (2 : Int32) [u0, u1, u2] G1 w_sf)] []) (fun _ k => XS.icmpNo X8.here hx rfl (hb hby d5_19) rfl (feq (fun z => absurd (q9.symm.trans z) (by decide))).1 k) ?_
              refine gb (mkF m 23 #[vr a0, vi 2, vi (fn12A (2 : Int32) [u0, u1, u2] G1 w_sf)] [(.int (fn12A (2 : Int32) [u0, u1, u2] G1 w_sf))]) (fun _ k => XS.iloadN X8.here hx rfl (hb hby d5_22) rfl k) ?_
              refine gb (mkF m 25 #[vr a0, vi 2, vi (fn12A (2 : Int32) [u0, u1, u2] G1 w_sf)] [(.int 9), (.int (fn12A (2 : Int32) [u0, u1, u2] G1 w_sf))]) (fun _ k => XS.bipush X8.here hx rfl (hb hby d5_23) k) ?_
              refine gb (mkF m 30 #[vr a0, vi 2, vi (fn12A (2 : Int32) [u0, u1, u2] G1 w_sf)] []) (fun _ k => XS.icmpYes X8.here hx rfl (pc0 := 25) (pc' := 30) rfl (hb hby d5_25) rfl (teq q9).1 (by decide) (by decide) k) ?_
              exact J9 _ _ X8 e8 N8
          · refine gb (mkF m 17 #[vr a0, vi 2, vi (fn12A (2 : Int32) [u0, u1, u2] G1 w_sf)] [(.int (fn12A (2 : Int32) [u0, u1, u2] G1 w_sf))]) (fun _ k => XS.iloadN X8.here hx rfl (hb hby d5_16) rfl k) ?_
            refine gb (mkF m 19 #[vr a0, vi 2, vi (fn12A (2 : Int32) [u0, u1, u2] G1 w_sf)] [(.int 32), (.int (fn12A (2 : Int32) [u0, u1, u2] G1 w_sf))]) (fun _ k => XS.bipush X8.here hx rfl (hb hby d5_17) k) ?_
            refine gb (mkF m 22 #[vr a0, vi 2, vi (fn12A (2 : Int32) [u0, u1, u2] G1 w_sf)] []) (fun _ k => XS.icmpNo X8.here hx rfl (hb hby d5_19) rfl (feq (fun q => hB9 (Or.inl q))).1 k) ?_
            refine gb (mkF m 23 #[vr a0, vi 2, vi (fn12A (2 : Int32) [u0, u1, u2] G1 w_sf)] [(.int (fn12A (2 : Int32) [u0, u1, u2] G1 w_sf))]) (fun _ k => XS.iloadN X8.here hx rfl (hb hby d5_22) rfl k) ?_
            refine gb (mkF m 25 #[vr a0, vi 2, vi (fn12A (2 : Int32) [u0, u1, u2] G1 w_sf)] [(.int 9), (.int (fn12A (2 : Int32) [u0, u1, u2] G1 w_sf))]) (fun _ k => XS.bipush X8.here hx rfl (hb hby d5_23) k) ?_
            refine gb (mkF m 28 #[vr a0, vi 2, vi (fn12A (2 : Int32) [u0, u1, u2] G1 w_sf)] []) (fun _ k => XS.icmpNo X8.here hx rfl (hb hby d5_25) rfl (feq (fun q => hB9 (Or.inr q))).1 k) ?_
            refine gb (mkF m 29 #[vr a0, vi 2, vi (fn12A (2 : Int32) [u0, u1, u2] G1 w_sf)] [(.int 0)]) (fun _ k => XS.iconst X8.here hx rfl (hb hby d5_28) k) ?_
            exact Gl.outN X8 hx hk (t := .boolean) Bd.returns (by simp) (hb hby d5_29) ⟨(congrArg (fun z => some (Value.int z)) (show nar .boolean (0 : Int32) = fn53A u0 u1 u2 G1 w_sf by unfold fn53A; rw [if_pos hB3, if_pos hB6, if_neg hB9]; try rfl)), N8, e8⟩ (by decide) (by decide)
        rcases hB6 with q6 | q6
        · refine gb (mkF m 17 #[vr a0, vi 1, vi (fn12A (1 : Int32) [u0, u1, u2] G1 w_sf)] [(.int (fn12A (1 : Int32) [u0, u1, u2] G1 w_sf))]) (fun _ k => XS.iloadN X5.here hx rfl (hb hby d5_16) rfl k) ?_
          refine gb (mkF m 19 #[vr a0, vi 1, vi (fn12A (1 : Int32) [u0, u1, u2] G1 w_sf)] [(.int 32), (.int (fn12A (1 : Int32) [u0, u1, u2] G1 w_sf))]) (fun _ k => XS.bipush X5.here hx rfl (hb hby d5_17) k) ?_
          refine gb (mkF m 30 #[vr a0, vi 1, vi (fn12A (1 : Int32) [u0, u1, u2] G1 w_sf)] []) (fun _ k => XS.icmpYes X5.here hx rfl (pc0 := 19) (pc' := 30) rfl (hb hby d5_19) rfl (teq q6).1 (by decide) (by decide) k) ?_
          exact J6 _ _ X5 e5 N5
        · refine gb (mkF m 17 #[vr a0, vi 1, vi (fn12A (1 : Int32) [u0, u1, u2] G1 w_sf)] [(.int (fn12A (1 : Int32) [u0, u1, u2] G1 w_sf))]) (fun _ k => XS.iloadN X5.here hx rfl (hb hby d5_16) rfl k) ?_
          refine gb (mkF m 19 #[vr a0, vi 1, vi (fn12A (1 : Int32) [u0, u1, u2] G1 w_sf)] [(.int 32), (.int (fn12A (1 : Int32) [u0, u1, u2] G1 w_sf))]) (fun _ k => XS.bipush X5.here hx rfl (hb hby d5_17) k) ?_
          refine gb (mkF m 22 #[vr a0, vi 1, vi (fn12A (1 : Int32) [u0, u1, u2] G1 w_sf)] []) (fun _ k => XS.icmpNo X5.here hx rfl (hb hby d5_19) rfl (feq (fun z => absurd (q6.symm.trans z) (by decide))).1 k) ?_
          refine gb (mkF m 23 #[vr a0, vi 1, vi (fn12A (1 : Int32) [u0, u1, u2] G1 w_sf)] [(.int (fn12A (1 : Int32) [u0, u1, u2] G1 w_sf))]) (fun _ k => XS.iloadN X5.here hx rfl (hb hby d5_22) rfl k) ?_
          refine gb (mkF m 25 #[vr a0, vi 1, vi (fn12A (1 : Int32) [u0, u1, u2] G1 w_sf)] [(.int 9), (.int (fn12A (1 : Int32) [u0, u1, u2] G1 w_sf))]) (fun _ k => XS.bipush X5.here hx rfl (hb hby d5_23) k) ?_
          refine gb (mkF m 30 #[vr a0, vi 1, vi (fn12A (1 : Int32) [u0, u1, u2] G1 w_sf)] []) (fun _ k => XS.icmpYes X5.here hx rfl (pc0 := 25) (pc' := 30) rfl (hb hby d5_25) rfl (teq q6).1 (by decide) (by decide) k) ?_
          exact J6 _ _ X5 e5 N5
      · refine gb (mkF m 17 #[vr a0, vi 1, vi (fn12A (1 : Int32) [u0, u1, u2] G1 w_sf)] [(.int (fn12A (1 : Int32) [u0, u1, u2] G1 w_sf))]) (fun _ k => XS.iloadN X5.here hx rfl (hb hby d5_16) rfl k) ?_
        refine gb (mkF m 19 #[vr a0, vi 1, vi (fn12A (1 : Int32) [u0, u1, u2] G1 w_sf)] [(.int 32), (.int (fn12A (1 : Int32) [u0, u1, u2] G1 w_sf))]) (fun _ k => XS.bipush X5.here hx rfl (hb hby d5_17) k) ?_
        refine gb (mkF m 22 #[vr a0, vi 1, vi (fn12A (1 : Int32) [u0, u1, u2] G1 w_sf)] []) (fun _ k => XS.icmpNo X5.here hx rfl (hb hby d5_19) rfl (feq (fun q => hB6 (Or.inl q))).1 k) ?_
        refine gb (mkF m 23 #[vr a0, vi 1, vi (fn12A (1 : Int32) [u0, u1, u2] G1 w_sf)] [(.int (fn12A (1 : Int32) [u0, u1, u2] G1 w_sf))]) (fun _ k => XS.iloadN X5.here hx rfl (hb hby d5_22) rfl k) ?_
        refine gb (mkF m 25 #[vr a0, vi 1, vi (fn12A (1 : Int32) [u0, u1, u2] G1 w_sf)] [(.int 9), (.int (fn12A (1 : Int32) [u0, u1, u2] G1 w_sf))]) (fun _ k => XS.bipush X5.here hx rfl (hb hby d5_23) k) ?_
        refine gb (mkF m 28 #[vr a0, vi 1, vi (fn12A (1 : Int32) [u0, u1, u2] G1 w_sf)] []) (fun _ k => XS.icmpNo X5.here hx rfl (hb hby d5_25) rfl (feq (fun q => hB6 (Or.inr q))).1 k) ?_
        refine gb (mkF m 29 #[vr a0, vi 1, vi (fn12A (1 : Int32) [u0, u1, u2] G1 w_sf)] [(.int 0)]) (fun _ k => XS.iconst X5.here hx rfl (hb hby d5_28) k) ?_
        exact Gl.outN X5 hx hk (t := .boolean) Bd.returns (by simp) (hb hby d5_29) ⟨(congrArg (fun z => some (Value.int z)) (show nar .boolean (0 : Int32) = fn53A u0 u1 u2 G1 w_sf by unfold fn53A; rw [if_pos hB3, if_neg hB6]; try rfl)), N5, e5⟩ (by decide) (by decide)
    rcases hB3 with q3 | q3
    · refine gb (mkF m 17 #[vr a0, vi 0, vi (fn12A (0 : Int32) [u0, u1, u2] G1 w_sf)] [(.int (fn12A (0 : Int32) [u0, u1, u2] G1 w_sf))]) (fun _ k => XS.iloadN X2.here hx rfl (hb hby d5_16) rfl k) ?_
      refine gb (mkF m 19 #[vr a0, vi 0, vi (fn12A (0 : Int32) [u0, u1, u2] G1 w_sf)] [(.int 32), (.int (fn12A (0 : Int32) [u0, u1, u2] G1 w_sf))]) (fun _ k => XS.bipush X2.here hx rfl (hb hby d5_17) k) ?_
      refine gb (mkF m 30 #[vr a0, vi 0, vi (fn12A (0 : Int32) [u0, u1, u2] G1 w_sf)] []) (fun _ k => XS.icmpYes X2.here hx rfl (pc0 := 19) (pc' := 30) rfl (hb hby d5_19) rfl (teq q3).1 (by decide) (by decide) k) ?_
      exact J3 _ _ X2 e2 N2
    · refine gb (mkF m 17 #[vr a0, vi 0, vi (fn12A (0 : Int32) [u0, u1, u2] G1 w_sf)] [(.int (fn12A (0 : Int32) [u0, u1, u2] G1 w_sf))]) (fun _ k => XS.iloadN X2.here hx rfl (hb hby d5_16) rfl k) ?_
      refine gb (mkF m 19 #[vr a0, vi 0, vi (fn12A (0 : Int32) [u0, u1, u2] G1 w_sf)] [(.int 32), (.int (fn12A (0 : Int32) [u0, u1, u2] G1 w_sf))]) (fun _ k => XS.bipush X2.here hx rfl (hb hby d5_17) k) ?_
      refine gb (mkF m 22 #[vr a0, vi 0, vi (fn12A (0 : Int32) [u0, u1, u2] G1 w_sf)] []) (fun _ k => XS.icmpNo X2.here hx rfl (hb hby d5_19) rfl (feq (fun z => absurd (q3.symm.trans z) (by decide))).1 k) ?_
      refine gb (mkF m 23 #[vr a0, vi 0, vi (fn12A (0 : Int32) [u0, u1, u2] G1 w_sf)] [(.int (fn12A (0 : Int32) [u0, u1, u2] G1 w_sf))]) (fun _ k => XS.iloadN X2.here hx rfl (hb hby d5_22) rfl k) ?_
      refine gb (mkF m 25 #[vr a0, vi 0, vi (fn12A (0 : Int32) [u0, u1, u2] G1 w_sf)] [(.int 9), (.int (fn12A (0 : Int32) [u0, u1, u2] G1 w_sf))]) (fun _ k => XS.bipush X2.here hx rfl (hb hby d5_23) k) ?_
      refine gb (mkF m 30 #[vr a0, vi 0, vi (fn12A (0 : Int32) [u0, u1, u2] G1 w_sf)] []) (fun _ k => XS.icmpYes X2.here hx rfl (pc0 := 25) (pc' := 30) rfl (hb hby d5_25) rfl (teq q3).1 (by decide) (by decide) k) ?_
      exact J3 _ _ X2 e2 N2
  · refine gb (mkF m 17 #[vr a0, vi 0, vi (fn12A (0 : Int32) [u0, u1, u2] G1 w_sf)] [(.int (fn12A (0 : Int32) [u0, u1, u2] G1 w_sf))]) (fun _ k => XS.iloadN X2.here hx rfl (hb hby d5_16) rfl k) ?_
    refine gb (mkF m 19 #[vr a0, vi 0, vi (fn12A (0 : Int32) [u0, u1, u2] G1 w_sf)] [(.int 32), (.int (fn12A (0 : Int32) [u0, u1, u2] G1 w_sf))]) (fun _ k => XS.bipush X2.here hx rfl (hb hby d5_17) k) ?_
    refine gb (mkF m 22 #[vr a0, vi 0, vi (fn12A (0 : Int32) [u0, u1, u2] G1 w_sf)] []) (fun _ k => XS.icmpNo X2.here hx rfl (hb hby d5_19) rfl (feq (fun q => hB3 (Or.inl q))).1 k) ?_
    refine gb (mkF m 23 #[vr a0, vi 0, vi (fn12A (0 : Int32) [u0, u1, u2] G1 w_sf)] [(.int (fn12A (0 : Int32) [u0, u1, u2] G1 w_sf))]) (fun _ k => XS.iloadN X2.here hx rfl (hb hby d5_22) rfl k) ?_
    refine gb (mkF m 25 #[vr a0, vi 0, vi (fn12A (0 : Int32) [u0, u1, u2] G1 w_sf)] [(.int 9), (.int (fn12A (0 : Int32) [u0, u1, u2] G1 w_sf))]) (fun _ k => XS.bipush X2.here hx rfl (hb hby d5_23) k) ?_
    refine gb (mkF m 28 #[vr a0, vi 0, vi (fn12A (0 : Int32) [u0, u1, u2] G1 w_sf)] []) (fun _ k => XS.icmpNo X2.here hx rfl (hb hby d5_25) rfl (feq (fun q => hB3 (Or.inr q))).1 k) ?_
    refine gb (mkF m 29 #[vr a0, vi 0, vi (fn12A (0 : Int32) [u0, u1, u2] G1 w_sf)] [(.int 0)]) (fun _ k => XS.iconst X2.here hx rfl (hb hby d5_28) k) ?_
    exact Gl.outN X2 hx hk (t := .boolean) Bd.returns (by simp) (hb hby d5_29) ⟨(congrArg (fun z => some (Value.int z)) (show nar .boolean (0 : Int32) = fn53A u0 u1 u2 G1 w_sf by unfold fn53A; rw [if_neg hB3]; try rfl)), N2, e2⟩ (by decide) (by decide)
theorem ef53U (m : MethodId) (x0 : Addr) : entryFrame m #[(.ref x0)] 3 = mkF m 0 #[.val (.ref x0), .unset, .unset] [] := by first | (simp [entryFrame, mkF, argsToLocals, Value.category]; done) | rfl
def fn53U (u0 : Int32) (u1 : Int32) (u2 : Int32) (u3 : Int32) (u4 : Int32) (u5 : Int32) (G1 : Int32) (w_sf : Value) : Int32 := if (fn12U (0 : Int32) [u0, u1, u2, u3, u4, u5] G1 w_sf) = (32 : Int32) ∨ (fn12U (0 : Int32) [u0, u1, u2, u3, u4, u5] G1 w_sf) = (9 : Int32) then if (fn12U (1 : Int32) [u0, u1, u2, u3, u4, u5] G1 w_sf) = (32 : Int32) ∨ (fn12U (1 : Int32) [u0, u1, u2, u3, u4, u5] G1 w_sf) = (9 : Int32) then if (fn12U (2 : Int32) [u0, u1, u2, u3, u4, u5] G1 w_sf) = (32 : Int32) ∨ (fn12U (2 : Int32) [u0, u1, u2, u3, u4, u5] G1 w_sf) = (9 : Int32) then (1 : Int32) else (0 : Int32) else (0 : Int32) else (0 : Int32)
def Q53U (Z : State) (a0 : Addr) (b : Addr) (kb : ClassId) (u0 : Int32) (u1 : Int32) (u2 : Int32) (u3 : Int32) (u4 : Int32) (u5 : Int32) (G1 : Int32) (w_sf : Value) (h0 : Heap) (n0 : Nat) (v : Option Value) (h : Heap) (L : List Loc) : Prop := v = some (.int (fn53U u0 u1 u2 u3 u4 u5 G1 w_sf)) ∧ Fr n0 L ∧ h = h0
theorem rm53U (l : Launch) (Z : State) (a0' : Array Value) (hw : ∀ d ∈ tables_1, d.before a0' Z = true) (ws : List Jvm.Cond) (a0 : Addr) (b : Addr) (kb : ClassId) (u0 : Int32) (u1 : Int32) (u2 : Int32) (u3 : Int32) (u4 : Int32) (u5 : Int32) (G1 : Int32) (w_sf : Value) (h0 : Heap) (n0 : Nat) (O : Old Z n0 h0) (W : Wd Z G1 w_sf) (pf0 : Exa Z h0 a0 "java/lang/String") (pf1 : Fld Z h0 a0 "java/lang/String" "value" "[B" (.ref b)) (pf2 : Fld Z h0 a0 "java/lang/String" "coder" "B" (.int 1)) (pf3 : Arv Z h0 b kb .byte (6 : Int32) [(.int u0), (.int u1), (.int u2), (.int u3), (.int u4), (.int u5)] (.int 0)) :
    MetFree l mq20 (head1 (Jvm.Cond.code mq20 prog_66_method_6_code 3 (some .boolean) :: ws) ({ frames := 5, cells := 0, slots := 0, locals := 66 } : Room)) (fun a U => a = #[(.ref a0)] ∧ Z.Warmed39 U.vm ∧ U.heap = h0) (fun _ _ _ _ _ => True) (fun _ U o U' => ∃ v L, o = .returned v ∧ Q53U Z a0 b kb u0 u1 u2 u3 u4 u5 G1 w_sf h0 n0 v U'.heap L ∧ FrameEnd U o U' L ({ frames := 5, cells := 0, slots := 0, locals := 66 } : Room).cells ({ frames := 5, cells := 0, slots := 0, locals := 66 } : Room).slots) := by
  refine MetFree.of_bodySF (plainFor_of_name pn4) hisR ?_
  intro p e s m args below meth c s₁ Bd hml0 hP hK
  obtain ⟨rfl, hZ, hh⟩ := hP
  have hx := Bd.exec
  have hby := Bd.bytes
  have hml : c.maxLocals = 3 := hml0
  have hown : s.vm.findClass "com/example/gatewarden/gatewarden/formats/PhysicalLines" = some m.cls := findClass_of_methodNamed Bd.named
  have hnm := (name_of_methodNamed Bd.named Bd.method).1
  have hk := Bd.notSynchronized
  have X0 : Stand p l e ({ frames := 5, cells := 0, slots := 0, locals := 66 } : Room) s m #[(.ref a0)] below meth c s₁ [] 0 0 := Stand.of_body Bd
  have hh2 := hh
  have e0 : s₁.heap = h0 := by rw [← hh, Bd.state]; rfl
  have N0 := Fr.nil n0
  show Gl p e below (Pos 0 0 (Q53U Z a0 b kb u0 u1 u2 u3 u4 u5 G1 w_sf h0 n0) s) s₁ _
  refine Gl.cast (ef53U m a0) ?_
  refine gb (mkF m 1 #[vr a0, .unset, .unset] [(.int 0)]) (fun _ k => XS.iconst X0.here hx rfl (hb hby d5_0) k) ?_
  refine gb (mkF m 2 #[vr a0, vi 0, .unset] []) (fun _ k => XS.istoreN X0.here hx rfl (hb hby d5_1) rfl (l' := #[vr a0, vi 0, .unset]) rfl k) ?_
  refine gb (mkF m 3 #[vr a0, vi 0, .unset] [(.int 0)]) (fun _ k => XS.iloadN X0.here hx rfl (hb hby d5_2) rfl k) ?_
  refine gb (mkF m 4 #[vr a0, vi 0, .unset] [(.ref a0), (.int 0)]) (fun _ k => XS.aloadN X0.here hx rfl (hb hby d5_3) rfl rfl k) ?_
  obtain ⟨cq1, kq1, q1a, q1b, q1c⟩ := isOf hZ e0 pf0
  obtain ⟨_, _, ⟨T1, L1, k1, n1⟩, -, X1, ⟨Lc1, hQ1, l1, y1, z1⟩, st1⟩ := X0.virtualBack hx (y := mq9) (z := mq9) hown (mvT hZ (hW hw 31 rfl)) (mvT hZ (hW hw 32 rfl)) (notFace_of_selects (args := #[]) (mvT hZ (hW hw 34 rfl))) (mvT hZ (hW hw 34 rfl)) (mvT hZ (hW hw 33 rfl)) (by decide) (backOf (W := 1) (rm6 l Z a0' hw [] a0 b (1 : Int32) kb [(.int u0), (.int u1), (.int u2), (.int u3), (.int u4), (.int u5)] (6 : Int32) G1 w_sf h0 n0 O W pf0 pf1 pf2 pf3) hZ (hW hw 35 rfl) (hW hw 8 rfl) (by decide) (by decide)) q1a q1c (g := (mkF m 4 #[vr a0, vi 0, .unset] [(.ref a0), (.int 0)])) rfl (by rw [hml]; rfl) (Steps.refl _) (argsL := []) (rest := [(.int 0)]) (lenOf pd274 rfl) rfl (Nat.le_of_eq rfl) (hb hby d5_4) (fun _ _ => ⟨rfl, e0, (by decide : 0 + 0 ≤ _), (by decide : 0 + 0 ≤ _)⟩)
  dsimp only [Pt.U, Pt.locs, Pt.cells, Pt.slots] at X1 l1 y1 z1 st1 hQ1
  subst l1 y1 z1
  obtain ⟨rfl, N1q, e1⟩ := hQ1
  have N1 := Fr.app N0 N1q
  refine gb (mkF m 7 #[vr a0, vi 0, .unset] [(.int ((6 : Int32) >>> (((1 : Int32).toInt8.toInt32) &&& 31))), (.int 0)]) (fun _ k => st1.trans k) ?_
  refine gb (mkF m 10 #[vr a0, vi 0, .unset] []) (fun _ k => XS.icmpNo X1.here hx rfl (hb hby d5_7) rfl (tlt (by decide : (0 : Int32) < ((6 : Int32) >>> (((1 : Int32).toInt8.toInt32) &&& 31)))).2.1 k) ?_
  refine gb (mkF m 11 #[vr a0, vi 0, .unset] [(.ref a0)]) (fun _ k => XS.aloadN X1.here hx rfl (hb hby d5_10) rfl rfl k) ?_
  refine gb (mkF m 12 #[vr a0, vi 0, .unset] [(.int 0), (.ref a0)]) (fun _ k => XS.iloadN X1.here hx rfl (hb hby d5_11) rfl k) ?_
  obtain ⟨cq2, kq2, q2a, q2b, q2c⟩ := isOf hZ e1 pf0
  obtain ⟨_, _, ⟨T2, L2, k2, n2⟩, -, X2, ⟨Lc2, hQ2, l2, y2, z2⟩, st2⟩ := X1.virtualBack hx (y := mq10) (z := mq10) hown (mvT hZ (hW hw 55 rfl)) (mvT hZ (hW hw 56 rfl)) (notFace_of_selects (args := #[]) (mvT hZ (hW hw 58 rfl))) (mvT hZ (hW hw 58 rfl)) (mvT hZ (hW hw 57 rfl)) (by decide) (backOf (W := 0) (rm12U l Z a0' hw [] a0 (0 : Int32) b kb (6 : Int32) [u0, u1, u2, u3, u4, u5] G1 w_sf h0 n0 O W pf0 pf1 pf2 pf3 (by decide) (by decide) (by decide) (by decide)) hZ (hW hw 59 rfl) (hW hw 8 rfl) (by decide) (by decide)) q2a q2c (g := (mkF m 12 #[vr a0, vi 0, .unset] [(.int 0), (.ref a0)])) rfl (by rw [hml]; rfl) (Steps.refl _) (argsL := [(.int 0)]) (rest := []) (lenOf pd289 rfl) rfl (Nat.le_of_eq rfl) (hb hby d5_12) (fun _ _ => ⟨rfl, e1, (by decide : 0 + 0 ≤ _), (by decide : 0 + 0 ≤ _)⟩)
  dsimp only [Pt.U, Pt.locs, Pt.cells, Pt.slots] at X2 l2 y2 z2 st2 hQ2
  subst l2 y2 z2
  obtain ⟨rfl, N2q, e2⟩ := hQ2
  have N2 := Fr.app N1 N2q
  refine gb (mkF m 15 #[vr a0, vi 0, .unset] [(.int (fn12U (0 : Int32) [u0, u1, u2, u3, u4, u5] G1 w_sf))]) (fun _ k => st2.trans k) ?_
  refine gb (mkF m 16 #[vr a0, vi 0, vi (fn12U (0 : Int32) [u0, u1, u2, u3, u4, u5] G1 w_sf)] []) (fun _ k => XS.istoreN X2.here hx rfl (hb hby d5_15) rfl (l' := #[vr a0, vi 0, vi (fn12U (0 : Int32) [u0, u1, u2, u3, u4, u5] G1 w_sf)]) rfl k) ?_
  by_cases hB3 : (fn12U (0 : Int32) [u0, u1, u2, u3, u4, u5] G1 w_sf) = (32 : Int32) ∨ (fn12U (0 : Int32) [u0, u1, u2, u3, u4, u5] G1 w_sf) = (9 : Int32)
  · have J3 : ∀ (T' : State) (lc : List Loc) (X' : Stand p l e ({ frames := 5, cells := 0, slots := 0, locals := 66 } : Room) s m #[(.ref a0)] below meth c T' lc 0 0) (eT : T'.heap = h0) (N' : Fr n0 lc), Gl p e below (Pos 0 0 (Q53U Z a0 b kb u0 u1 u2 u3 u4 u5 G1 w_sf h0 n0) s) T' (mkF m 30 #[vr a0, vi 0, vi (fn12U (0 : Int32) [u0, u1, u2, u3, u4, u5] G1 w_sf)] []) := by
      intro T' lc X' eT N'
      refine gb (mkF m 33 #[vr a0, vi 1, vi (fn12U (0 : Int32) [u0, u1, u2, u3, u4, u5] G1 w_sf)] []) (fun _ k => XS.iinc X'.here hx rfl (hb hby d5_30) rfl (l' := #[vr a0, vi 1, vi (fn12U (0 : Int32) [u0, u1, u2, u3, u4, u5] G1 w_sf)]) rfl k) ?_
      refine gb (mkF m 2 #[vr a0, vi 1, vi (fn12U (0 : Int32) [u0, u1, u2, u3, u4, u5] G1 w_sf)] []) (fun _ k => XS.goto X'.here hx rfl (pc0 := 33) (pc' := 2) rfl (hb hby d5_33) (by decide) (by decide) k) ?_
      refine gb (mkF m 3 #[vr a0, vi 1, vi (fn12U (0 : Int32) [u0, u1, u2, u3, u4, u5] G1 w_sf)] [(.int 1)]) (fun _ k => XS.iloadN X'.here hx rfl (hb hby d5_2) rfl k) ?_
      refine gb (mkF m 4 #[vr a0, vi 1, vi (fn12U (0 : Int32) [u0, u1, u2, u3, u4, u5] G1 w_sf)] [(.ref a0), (.int 1)]) (fun _ k => XS.aloadN X'.here hx rfl (hb hby d5_3) rfl rfl k) ?_
      obtain ⟨cq4, kq4, q4a, q4b, q4c⟩ := isOf hZ eT pf0
      obtain ⟨_, _, ⟨T4, L4, k4, n4⟩, -, X4, ⟨Lc4, hQ4, l4, y4, z4⟩, st4⟩ := X'.virtualBack hx (y := mq9) (z := mq9) hown (mvT hZ (hW hw 31 rfl)) (mvT hZ (hW hw 32 rfl)) (notFace_of_selects (args := #[]) (mvT hZ (hW hw 34 rfl))) (mvT hZ (hW hw 34 rfl)) (mvT hZ (hW hw 33 rfl)) (by decide) (backOf (W := 1) (rm6 l Z a0' hw [] a0 b (1 : Int32) kb [(.int u0), (.int u1), (.int u2), (.int u3), (.int u4), (.int u5)] (6 : Int32) G1 w_sf h0 n0 O W pf0 pf1 pf2 pf3) hZ (hW hw 35 rfl) (hW hw 8 rfl) (by decide) (by decide)) q4a q4c (g := (mkF m 4 #[vr a0, vi 1, vi (fn12U (0 : Int32) [u0, u1, u2, u3, u4, u5] G1 w_sf)] [(.ref a0), (.int 1)])) rfl (by rw [hml]; rfl) (Steps.refl _) (argsL := []) (rest := [(.int 1)]) (lenOf pd274 rfl) rfl (Nat.le_of_eq rfl) (hb hby d5_4) (fun _ _ => ⟨rfl, eT, (by decide : 0 + 0 ≤ _), (by decide : 0 + 0 ≤ _)⟩)
      dsimp only [Pt.U, Pt.locs, Pt.cells, Pt.slots] at X4 l4 y4 z4 st4 hQ4
      subst l4 y4 z4
      obtain ⟨rfl, N4q, e4⟩ := hQ4
      have N4 := Fr.app N' N4q
      refine gb (mkF m 7 #[vr a0, vi 1, vi (fn12U (0 : Int32) [u0, u1, u2, u3, u4, u5] G1 w_sf)] [(.int ((6 : Int32) >>> (((1 : Int32).toInt8.toInt32) &&& 31))), (.int 1)]) (fun _ k => st4.trans k) ?_
      refine gb (mkF m 10 #[vr a0, vi 1, vi (fn12U (0 : Int32) [u0, u1, u2, u3, u4, u5] G1 w_sf)] []) (fun _ k => XS.icmpNo X4.here hx rfl (hb hby d5_7) rfl (tlt (by decide : (1 : Int32) < ((6 : Int32) >>> (((1 : Int32).toInt8.toInt32) &&& 31)))).2.1 k) ?_
      refine gb (mkF m 11 #[vr a0, vi 1, vi (fn12U (0 : Int32) [u0, u1, u2, u3, u4, u5] G1 w_sf)] [(.ref a0)]) (fun _ k => XS.aloadN X4.here hx rfl (hb hby d5_10) rfl rfl k) ?_
      refine gb (mkF m 12 #[vr a0, vi 1, vi (fn12U (0 : Int32) [u0, u1, u2, u3, u4, u5] G1 w_sf)] [(.int 1), (.ref a0)]) (fun _ k => XS.iloadN X4.here hx rfl (hb hby d5_11) rfl k) ?_
      obtain ⟨cq5, kq5, q5a, q5b, q5c⟩ := isOf hZ e4 pf0
      obtain ⟨_, _, ⟨T5, L5, k5, n5⟩, -, X5, ⟨Lc5, hQ5, l5, y5, z5⟩, st5⟩ := X4.virtualBack hx (y := mq10) (z := mq10) hown (mvT hZ (hW hw 55 rfl)) (mvT hZ (hW hw 56 rfl)) (notFace_of_selects (args := #[]) (mvT hZ (hW hw 58 rfl))) (mvT hZ (hW hw 58 rfl)) (mvT hZ (hW hw 57 rfl)) (by decide) (backOf (W := 0) (rm12U l Z a0' hw [] a0 (1 : Int32) b kb (6 : Int32) [u0, u1, u2, u3, u4, u5] G1 w_sf h0 n0 O W pf0 pf1 pf2 pf3 (by decide) (by decide) (by decide) (by decide)) hZ (hW hw 59 rfl) (hW hw 8 rfl) (by decide) (by decide)) q5a q5c (g := (mkF m 12 #[vr a0, vi 1, vi (fn12U (0 : Int32) [u0, u1, u2, u3, u4, u5] G1 w_sf)] [(.int 1), (.ref a0)])) rfl (by rw [hml]; rfl) (Steps.refl _) (argsL := [(.int 1)]) (rest := []) (lenOf pd289 rfl) rfl (Nat.le_of_eq rfl) (hb hby d5_12) (fun _ _ => ⟨rfl, e4, (by decide : 0 + 0 ≤ _), (by decide : 0 + 0 ≤ _)⟩)
      dsimp only [Pt.U, Pt.locs, Pt.cells, Pt.slots] at X5 l5 y5 z5 st5 hQ5
      subst l5 y5 z5
      obtain ⟨rfl, N5q, e5⟩ := hQ5
      have N5 := Fr.app N4 N5q
      refine gb (mkF m 15 #[vr a0, vi 1, vi (fn12U (0 : Int32) [u0, u1, u2, u3, u4, u5] G1 w_sf)] [(.int (fn12U (1 : Int32) [u0, u1, u2, u3, u4, u5] G1 w_sf))]) (fun _ k => st5.trans k) ?_
      refine gb (mkF m 16 #[vr a0, vi 1, vi (fn12U (1 : Int32) [u0, u1, u2, u3, u4, u5] G1 w_sf)] []) (fun _ k => XS.istoreN X5.here hx rfl (hb hby d5_15) rfl (l' := #[vr a0, vi 1, vi (fn12U (1 : Int32) [u0, u1, u2, u3, u4, u5] G1 w_sf)]) rfl k) ?_
      by_cases hB6 : (fn12U (1 : Int32) [u0, u1, u2, u3, u4, u5] G1 w_sf) = (32 : Int32) ∨ (fn12U (1 : Int32) [u0, u1, u2, u3, u4, u5] G1 w_sf) = (9 : Int32)
      · have J6 : ∀ (T' : State) (lc : List Loc) (X' : Stand p l e ({ frames := 5, cells := 0, slots := 0, locals := 66 } : Room) s m #[(.ref a0)] below meth c T' lc 0 0) (eT : T'.heap = h0) (N' : Fr n0 lc), Gl p e below (Pos 0 0 (Q53U Z a0 b kb u0 u1 u2 u3 u4 u5 G1 w_sf h0 n0) s) T' (mkF m 30 #[vr a0, vi 1, vi (fn12U (1 : Int32) [u0, u1, u2, u3, u4, u5] G1 w_sf)] []) := by
          intro T' lc X' eT N'
          refine gb (mkF m 33 #[vr a0, vi 2, vi (fn12U (1 : Int32) [u0, u1, u2, u3, u4, u5] G1 w_sf)] []) (fun _ k => XS.iinc X'.here hx rfl (hb hby d5_30) rfl (l' := #[vr a0, vi 2, vi (fn12U (1 : Int32) [u0, u1, u2, u3, u4, u5] G1 w_sf)]) rfl k) ?_
          refine gb (mkF m 2 #[vr a0, vi 2, vi (fn12U (1 : Int32) [u0, u1, u2, u3, u4, u5] G1 w_sf)] []) (fun _ k => XS.goto X'.here hx rfl (pc0 := 33) (pc' := 2) rfl (hb hby d5_33) (by decide) (by decide) k) ?_
          refine gb (mkF m 3 #[vr a0, vi 2, vi (fn12U (1 : Int32) [u0, u1, u2, u3, u4, u5] G1 w_sf)] [(.int 2)]) (fun _ k => XS.iloadN X'.here hx rfl (hb hby d5_2) rfl k) ?_
          refine gb (mkF m 4 #[vr a0, vi 2, vi (fn12U (1 : Int32) [u0, u1, u2, u3, u4, u5] G1 w_sf)] [(.ref a0), (.int 2)]) (fun _ k => XS.aloadN X'.here hx rfl (hb hby d5_3) rfl rfl k) ?_
          obtain ⟨cq7, kq7, q7a, q7b, q7c⟩ := isOf hZ eT pf0
          obtain ⟨_, _, ⟨T7, L7, k7, n7⟩, -, X7, ⟨Lc7, hQ7, l7, y7, z7⟩, st7⟩ := X'.virtualBack hx (y := mq9) (z := mq9) hown (mvT hZ (hW hw 31 rfl)) (mvT hZ (hW hw 32 rfl)) (notFace_of_selects (args := #[]) (mvT hZ (hW hw 34 rfl))) (mvT hZ (hW hw 34 rfl)) (mvT hZ (hW hw 33 rfl)) (by decide) (backOf (W := 1) (rm6 l Z a0' hw [] a0 b (1 : Int32) kb [(.int u0), (.int u1), (.int u2), (.int u3), (.int u4), (.int u5)] (6 : Int32) G1 w_sf h0 n0 O W pf0 pf1 pf2 pf3) hZ (hW hw 35 rfl) (hW hw 8 rfl) (by decide) (by decide)) q7a q7c (g := (mkF m 4 #[vr a0, vi 2, vi (fn12U (1 : Int32) [u0, u1, u2, u3, u4, u5] G1 w_sf)] [(.ref a0), (.int 2)])) rfl (by rw [hml]; rfl) (Steps.refl _) (argsL := []) (rest := [(.int 2)]) (lenOf pd274 rfl) rfl (Nat.le_of_eq rfl) (hb hby d5_4) (fun _ _ => ⟨rfl, eT, (by decide : 0 + 0 ≤ _), (by decide : 0 + 0 ≤ _)⟩)
          dsimp only [Pt.U, Pt.locs, Pt.cells, Pt.slots] at X7 l7 y7 z7 st7 hQ7
          subst l7 y7 z7
          obtain ⟨rfl, N7q, e7⟩ := hQ7
          have N7 := Fr.app N' N7q
          refine gb (mkF m 7 #[vr a0, vi 2, vi (fn12U (1 : Int32) [u0, u1, u2, u3, u4, u5] G1 w_sf)] [(.int ((6 : Int32) >>> (((1 : Int32).toInt8.toInt32) &&& 31))), (.int 2)]) (fun _ k => st7.trans k) ?_
          refine gb (mkF m 10 #[vr a0, vi 2, vi (fn12U (1 : Int32) [u0, u1, u2, u3, u4, u5] G1 w_sf)] []) (fun _ k => XS.icmpNo X7.here hx rfl (hb hby d5_7) rfl (tlt (by decide : (2 : Int32) < ((6 : Int32) >>> (((1 : Int32).toInt8.toInt32) &&& 31)))).2.1 k) ?_
          refine gb (mkF m 11 #[vr a0, vi 2, vi (fn12U (1 : Int32) [u0, u1, u2, u3, u4, u5] G1 w_sf)] [(.ref a0)]) (fun _ k => XS.aloadN X7.here hx rfl (hb hby d5_10) rfl rfl k) ?_
          refine gb (mkF m 12 #[vr a0, vi 2, vi (fn12U (1 : Int32) [u0, u1, u2, u3, u4, u5] G1 w_sf)] [(.int 2), (.ref a0)]) (fun _ k => XS.iloadN X7.here hx rfl (hb hby d5_11) rfl k) ?_
          obtain ⟨cq8, kq8, q8a, q8b, q8c⟩ := isOf hZ e7 pf0
          obtain ⟨_, _, ⟨T8, L8, k8, n8⟩, -, X8, ⟨Lc8, hQ8, l8, y8, z8⟩, st8⟩ := X7.virtualBack hx (y := mq10) (z := mq10) hown (mvT hZ (hW hw 55 rfl)) (mvT hZ (hW hw 56 rfl)) (notFace_of_selects (args := #[]) (mvT hZ (hW hw 58 rfl))) (mvT hZ (hW hw 58 rfl)) (mvT hZ (hW hw 57 rfl)) (by decide) (backOf (W := 0) (rm12U l Z a0' hw [] a0 (2 : Int32) b kb (6 : Int32) [u0, u1, u2, u3, u4, u5] G1 w_sf h0 n0 O W pf0 pf1 pf2 pf3 (by decide) (by decide) (by decide) (by decide)) hZ (hW hw 59 rfl) (hW hw 8 rfl) (by decide) (by decide)) q8a q8c (g := (mkF m 12 #[vr a0, vi 2, vi (fn12U (1 : Int32) [u0, u1, u2, u3, u4, u5] G1 w_sf)] [(.int 2), (.ref a0)])) rfl (by rw [hml]; rfl) (Steps.refl _) (argsL := [(.int 2)]) (rest := []) (lenOf pd289 rfl) rfl (Nat.le_of_eq rfl) (hb hby d5_12) (fun _ _ => ⟨rfl, e7, (by decide : 0 + 0 ≤ _), (by decide : 0 + 0 ≤ _)⟩)
          dsimp only [Pt.U, Pt.locs, Pt.cells, Pt.slots] at X8 l8 y8 z8 st8 hQ8
          subst l8 y8 z8
          obtain ⟨rfl, N8q, e8⟩ := hQ8
          have N8 := Fr.app N7 N8q
          refine gb (mkF m 15 #[vr a0, vi 2, vi (fn12U (1 : Int32) [u0, u1, u2, u3, u4, u5] G1 w_sf)] [(.int (fn12U (2 : Int32) [u0, u1, u2, u3, u4, u5] G1 w_sf))]) (fun _ k => st8.trans k) ?_
          refine gb (mkF m 16 #[vr a0, vi 2, vi (fn12U (2 : Int32) [u0, u1, u2, u3, u4, u5] G1 w_sf)] []) (fun _ k => XS.istoreN X8.here hx rfl (hb hby d5_15) rfl (l' := #[vr a0, vi 2, vi (fn12U (2 : Int32) [u0, u1, u2, u3, u4, u5] G1 w_sf)]) rfl k) ?_
          by_cases hB9 : (fn12U (2 : Int32) [u0, u1, u2, u3, u4, u5] G1 w_sf) = (32 : Int32) ∨ (fn12U (2 : Int32) [u0, u1, u2, u3, u4, u5] G1 w_sf) = (9 : Int32)
          · have J9 : ∀ (T' : State) (lc : List Loc) (X' : Stand p l e ({ frames := 5, cells := 0, slots := 0, locals := 66 } : Room) s m #[(.ref a0)] below meth c T' lc 0 0) (eT : T'.heap = h0) (N' : Fr n0 lc), Gl p e below (Pos 0 0 (Q53U Z a0 b kb u0 u1 u2 u3 u4 u5 G1 w_sf h0 n0) s) T' (mkF m 30 #[vr a0, vi 2, vi (fn12U (2 : Int32) [u0, u1, u2, u3, u4, u5] G1 w_sf)] []) := by
              intro T' lc X' eT N'
              refine gb (mkF m 33 #[vr a0, vi 3, vi (fn12U (2 : Int32) [u0, u1, u2, u3, u4, u5] G1 w_sf)] []) (fun _ k => XS.iinc X'.here hx rfl (hb hby d5_30) rfl (l' := #[vr a0, vi 3, vi (fn12U (2 : Int32) [u0, u1, u2, u3, u4, u5] G1 w_sf)]) rfl k) ?_
              refine gb (mkF m 2 #[vr a0, vi 3, vi (fn12U (2 : Int32) [u0, u1, u2, u3, u4, u5] G1 w_sf)] []) (fun _ k => XS.goto X'.here hx rfl (pc0 := 33) (pc' := 2) rfl (hb hby d5_33) (by decide) (by decide) k) ?_
              refine gb (mkF m 3 #[vr a0, vi 3, vi (fn12U (2 : Int32) [u0, u1, u2, u3, u4, u5] G1 w_sf)] [(.int 3)]) (fun _ k => XS.iloadN X'.here hx rfl (hb hby d5_2) rfl k) ?_
              refine gb (mkF m 4 #[vr a0, vi 3, vi (fn12U (2 : Int32) [u0, u1, u2, u3, u4, u5] G1 w_sf)] [(.ref a0), (.int 3)]) (fun _ k => XS.aloadN X'.here hx rfl (hb hby d5_3) rfl rfl k) ?_
              obtain ⟨cq10, kq10, q10a, q10b, q10c⟩ := isOf hZ eT pf0
              obtain ⟨_, _, ⟨T10, L10, k10, n10⟩, -, X10, ⟨Lc10, hQ10, l10, y10, z10⟩, st10⟩ := X'.virtualBack hx (y := mq9) (z := mq9) hown (mvT hZ (hW hw 31 rfl)) (mvT hZ (hW hw 32 rfl)) (notFace_of_selects (args := #[]) (mvT hZ (hW hw 34 rfl))) (mvT hZ (hW hw 34 rfl)) (mvT hZ (hW hw 33 rfl)) (by decide) (backOf (W := 1) (rm6 l Z a0' hw [] a0 b (1 : Int32) kb [(.int u0), (.int u1), (.int u2), (.int u3), (.int u4), (.int u5)] (6 : Int32) G1 w_sf h0 n0 O W pf0 pf1 pf2 pf3) hZ (hW hw 35 rfl) (hW hw 8 rfl) (by decide) (by decide)) q10a q10c (g := (mkF m 4 #[vr a0, vi 3, vi (fn12U (2 : Int32) [u0, u1, u2, u3, u4, u5] G1 w_sf)] [(.ref a0), (.int 3)])) rfl (by rw [hml]; rfl) (Steps.refl _) (argsL := []) (rest := [(.int 3)]) (lenOf pd274 rfl) rfl (Nat.le_of_eq rfl) (hb hby d5_4) (fun _ _ => ⟨rfl, eT, (by decide : 0 + 0 ≤ _), (by decide : 0 + 0 ≤ _)⟩)
              dsimp only [Pt.U, Pt.locs, Pt.cells, Pt.slots] at X10 l10 y10 z10 st10 hQ10
              subst l10 y10 z10
              obtain ⟨rfl, N10q, e10⟩ := hQ10
              have N10 := Fr.app N' N10q
              refine gb (mkF m 7 #[vr a0, vi 3, vi (fn12U (2 : Int32) [u0, u1, u2, u3, u4, u5] G1 w_sf)] [(.int ((6 : Int32) >>> (((1 : Int32).toInt8.toInt32) &&& 31))), (.int 3)]) (fun _ k => st10.trans k) ?_
              refine gb (mkF m 36 #[vr a0, vi 3, vi (fn12U (2 : Int32) [u0, u1, u2, u3, u4, u5] G1 w_sf)] []) (fun _ k => XS.icmpYes X10.here hx rfl (pc0 := 7) (pc' := 36) rfl (hb hby d5_7) rfl (flt (by decide : ¬ ((3 : Int32) < ((6 : Int32) >>> (((1 : Int32).toInt8.toInt32) &&& 31))))).2.1 (by decide) (by decide) k) ?_
              refine gb (mkF m 37 #[vr a0, vi 3, vi (fn12U (2 : Int32) [u0, u1, u2, u3, u4, u5] G1 w_sf)] [(.int 1)]) (fun _ k => XS.iconst X10.here hx rfl (hb hby d5_36) k) ?_
              exact Gl.outN X10 hx hk (t := .boolean) Bd.returns (by simp) (hb hby d5_37) ⟨(congrArg (fun z => some (Value.int z)) (show nar .boolean (1 : Int32) = fn53U u0 u1 u2 u3 u4 u5 G1 w_sf by unfold fn53U; rw [if_pos hB3, if_pos hB6, if_pos hB9]; try rfl)), N10, e10⟩ (by decide) (by decide)
            rcases hB9 with q9 | q9
            · refine gb (mkF m 17 #[vr a0, vi 2, vi (fn12U (2 : Int32) [u0, u1, u2, u3, u4, u5] G1 w_sf)] [(.int (fn12U (2 : Int32) [u0, u1, u2, u3, u4, u5] G1 w_sf))]) (fun _ k => XS.iloadN X8.here hx rfl (hb hby d5_16) rfl k) ?_
              refine gb (mkF m 19 #[vr a0, vi 2, vi (fn12U (2 : Int32) [u0, u1, u2, u3, u4, u5] G1 w_sf)] [(.int 32), (.int (fn12U (2 : Int32) [u0, u1, u2, u3, u4, u5] G1 w_sf))]) (fun _ k => XS.bipush X8.here hx rfl (hb hby d5_17) k) ?_
              refine gb (mkF m 30 #[vr a0, vi 2, vi (fn12U (2 : Int32) [u0, u1, u2, u3, u4, u5] G1 w_sf)] []) (fun _ k => XS.icmpYes X8.here hx rfl (pc0 := 19) (pc' := 30) rfl (hb hby d5_19) rfl (teq q9).1 (by decide) (by decide) k) ?_
              exact J9 _ _ X8 e8 N8
            · refine gb (mkF m 17 #[vr a0, vi 2, vi (fn12U (2 : Int32) [u0, u1, u2, u3, u4, u5] G1 w_sf)] [(.int (fn12U (2 : Int32) [u0, u1, u2, u3, u4, u5] G1 w_sf))]) (fun _ k => XS.iloadN X8.here hx rfl (hb hby d5_16) rfl k) ?_
              refine gb (mkF m 19 #[vr a0, vi 2, vi (fn12U (2 : Int32) [u0, u1, u2, u3, u4, u5] G1 w_sf)] [(.int 32), (.int (fn12U (2 : Int32) [u0, u1, u2, u3, u4, u5] G1 w_sf))]) (fun _ k => XS.bipush X8.here hx rfl (hb hby d5_17) k) ?_
              refine gb (mkF m 22 #[vr a0, vi 2, vi (fn12U (2 : Int32) [u0, u1, u2, u3, u4, u5] G1 w_sf)] []) (fun _ k => XS.icmpNo X8.here hx rfl (hb hby d5_19) rfl (feq (fun z => absurd (q9.symm.trans z) (by decide))).1 k) ?_
              refine gb (mkF m 23 #[vr a0, vi 2, vi (fn12U (2 : Int32) [u0, u1, u2, u3, u4, u5] G1 w_sf)] [(.int (fn12U (2 : Int32) [u0, u1, u2, u3, u4, u5] G1 w_sf))]) (fun _ k => XS.iloadN X8.here hx rfl (hb hby d5_22) rfl k) ?_
              refine gb (mkF m 25 #[vr a0, vi 2, vi (fn12U (2 : Int32) [u0, u1, u2, u3, u4, u5] G1 w_sf)] [(.int 9), (.int (fn12U (2 : Int32) [u0, u1, u2, u3, u4, u5] G1 w_sf))]) (fun _ k => XS.bipush X8.here hx rfl (hb hby d5_23) k) ?_
              refine gb (mkF m 30 #[vr a0, vi 2, vi (fn12U (2 : Int32) [u0, u1, u2, u3, u4, u5] G1 w_sf)] []) (fun _ k => XS.icmpYes X8.here hx rfl (pc0 := 25) (pc' := 30) rfl (hb hby d5_25) rfl (teq q9).1 (by decide) (by decide) k) ?_
              exact J9 _ _ X8 e8 N8
          · refine gb (mkF m 17 #[vr a0, vi 2, vi (fn12U (2 : Int32) [u0, u1, u2, u3, u4, u5] G1 w_sf)] [(.int (fn12U (2 : Int32) [u0, u1, u2, u3, u4, u5] G1 w_sf))]) (fun _ k => XS.iloadN X8.here hx rfl (hb hby d5_16) rfl k) ?_
            refine gb (mkF m 19 #[vr a0, vi 2, vi (fn12U (2 : Int32) [u0, u1, u2, u3, u4, u5] G1 w_sf)] [(.int 32), (.int (fn12U (2 : Int32) [u0, u1, u2, u3, u4, u5] G1 w_sf))]) (fun _ k => XS.bipush X8.here hx rfl (hb hby d5_17) k) ?_
            refine gb (mkF m 22 #[vr a0, vi 2, vi (fn12U (2 : Int32) [u0, u1, u2, u3, u4, u5] G1 w_sf)] []) (fun _ k => XS.icmpNo X8.here hx rfl (hb hby d5_19) rfl (feq (fun q => hB9 (Or.inl q))).1 k) ?_
            refine gb (mkF m 23 #[vr a0, vi 2, vi (fn12U (2 : Int32) [u0, u1, u2, u3, u4, u5] G1 w_sf)] [(.int (fn12U (2 : Int32) [u0, u1, u2, u3, u4, u5] G1 w_sf))]) (fun _ k => XS.iloadN X8.here hx rfl (hb hby d5_22) rfl k) ?_
            refine gb (mkF m 25 #[vr a0, vi 2, vi (fn12U (2 : Int32) [u0, u1, u2, u3, u4, u5] G1 w_sf)] [(.int 9), (.int (fn12U (2 : Int32) [u0, u1, u2, u3, u4, u5] G1 w_sf))]) (fun _ k => XS.bipush X8.here hx rfl (hb hby d5_23) k) ?_
            refine gb (mkF m 28 #[vr a0, vi 2, vi (fn12U (2 : Int32) [u0, u1, u2, u3, u4, u5] G1 w_sf)] []) (fun _ k => XS.icmpNo X8.here hx rfl (hb hby d5_25) rfl (feq (fun q => hB9 (Or.inr q))).1 k) ?_
            refine gb (mkF m 29 #[vr a0, vi 2, vi (fn12U (2 : Int32) [u0, u1, u2, u3, u4, u5] G1 w_sf)] [(.int 0)]) (fun _ k => XS.iconst X8.here hx rfl (hb hby d5_28) k) ?_
            exact Gl.outN X8 hx hk (t := .boolean) Bd.returns (by simp) (hb hby d5_29) ⟨(congrArg (fun z => some (Value.int z)) (show nar .boolean (0 : Int32) = fn53U u0 u1 u2 u3 u4 u5 G1 w_sf by unfold fn53U; rw [if_pos hB3, if_pos hB6, if_neg hB9]; try rfl)), N8, e8⟩ (by decide) (by decide)
        rcases hB6 with q6 | q6
        · refine gb (mkF m 17 #[vr a0, vi 1, vi (fn12U (1 : Int32) [u0, u1, u2, u3, u4, u5] G1 w_sf)] [(.int (fn12U (1 : Int32) [u0, u1, u2, u3, u4, u5] G1 w_sf))]) (fun _ k => XS.iloadN X5.here hx rfl (hb hby d5_16) rfl k) ?_
          refine gb (mkF m 19 #[vr a0, vi 1, vi (fn12U (1 : Int32) [u0, u1, u2, u3, u4, u5] G1 w_sf)] [(.int 32), (.int (fn12U (1 : Int32) [u0, u1, u2, u3, u4, u5] G1 w_sf))]) (fun _ k => XS.bipush X5.here hx rfl (hb hby d5_17) k) ?_
          refine gb (mkF m 30 #[vr a0, vi 1, vi (fn12U (1 : Int32) [u0, u1, u2, u3, u4, u5] G1 w_sf)] []) (fun _ k => XS.icmpYes X5.here hx rfl (pc0 := 19) (pc' := 30) rfl (hb hby d5_19) rfl (teq q6).1 (by decide) (by decide) k) ?_
          exact J6 _ _ X5 e5 N5
        · refine gb (mkF m 17 #[vr a0, vi 1, vi (fn12U (1 : Int32) [u0, u1, u2, u3, u4, u5] G1 w_sf)] [(.int (fn12U (1 : Int32) [u0, u1, u2, u3, u4, u5] G1 w_sf))]) (fun _ k => XS.iloadN X5.here hx rfl (hb hby d5_16) rfl k) ?_
          refine gb (mkF m 19 #[vr a0, vi 1, vi (fn12U (1 : Int32) [u0, u1, u2, u3, u4, u5] G1 w_sf)] [(.int 32), (.int (fn12U (1 : Int32) [u0, u1, u2, u3, u4, u5] G1 w_sf))]) (fun _ k => XS.bipush X5.here hx rfl (hb hby d5_17) k) ?_
          refine gb (mkF m 22 #[vr a0, vi 1, vi (fn12U (1 : Int32) [u0, u1, u2, u3, u4, u5] G1 w_sf)] []) (fun _ k => XS.icmpNo X5.here hx rfl (hb hby d5_19) rfl (feq (fun z => absurd (q6.symm.trans z) (by decide))).1 k) ?_
          refine gb (mkF m 23 #[vr a0, vi 1, vi (fn12U (1 : Int32) [u0, u1, u2, u3, u4, u5] G1 w_sf)] [(.int (fn12U (1 : Int32) [u0, u1, u2, u3, u4, u5] G1 w_sf))]) (fun _ k => XS.iloadN X5.here hx rfl (hb hby d5_22) rfl k) ?_
          refine gb (mkF m 25 #[vr a0, vi 1, vi (fn12U (1 : Int32) [u0, u1, u2, u3, u4, u5] G1 w_sf)] [(.int 9), (.int (fn12U (1 : Int32) [u0, u1, u2, u3, u4, u5] G1 w_sf))]) (fun _ k => XS.bipush X5.here hx rfl (hb hby d5_23) k) ?_
          refine gb (mkF m 30 #[vr a0, vi 1, vi (fn12U (1 : Int32) [u0, u1, u2, u3, u4, u5] G1 w_sf)] []) (fun _ k => XS.icmpYes X5.here hx rfl (pc0 := 25) (pc' := 30) rfl (hb hby d5_25) rfl (teq q6).1 (by decide) (by decide) k) ?_
          exact J6 _ _ X5 e5 N5
      · refine gb (mkF m 17 #[vr a0, vi 1, vi (fn12U (1 : Int32) [u0, u1, u2, u3, u4, u5] G1 w_sf)] [(.int (fn12U (1 : Int32) [u0, u1, u2, u3, u4, u5] G1 w_sf))]) (fun _ k => XS.iloadN X5.here hx rfl (hb hby d5_16) rfl k) ?_
        refine gb (mkF m 19 #[vr a0, vi 1, vi (fn12U (1 : Int32) [u0, u1, u2, u3, u4, u5] G1 w_sf)] [(.int 32), (.int (fn12U (1 : Int32) [u0, u1, u2, u3, u4, u5] G1 w_sf))]) (fun _ k => XS.bipush X5.here hx rfl (hb hby d5_17) k) ?_
        refine gb (mkF m 22 #[vr a0, vi 1, vi (fn12U (1 : Int32) [u0, u1, u2, u3, u4, u5] G1 w_sf)] []) (fun _ k => XS.icmpNo X5.here hx rfl (hb hby d5_19) rfl (feq (fun q => hB6 (Or.inl q))).1 k) ?_
        refine gb (mkF m 23 #[vr a0, vi 1, vi (fn12U (1 : Int32) [u0, u1, u2, u3, u4, u5] G1 w_sf)] [(.int (fn12U (1 : Int32) [u0, u1, u2, u3, u4, u5] G1 w_sf))]) (fun _ k => XS.iloadN X5.here hx rfl (hb hby d5_22) rfl k) ?_
        refine gb (mkF m 25 #[vr a0, vi 1, vi (fn12U (1 : Int32) [u0, u1, u2, u3, u4, u5] G1 w_sf)] [(.int 9), (.int (fn12U (1 : Int32) [u0, u1, u2, u3, u4, u5] G1 w_sf))]) (fun _ k => XS.bipush X5.here hx rfl (hb hby d5_23) k) ?_
        refine gb (mkF m 28 #[vr a0, vi 1, vi (fn12U (1 : Int32) [u0, u1, u2, u3, u4, u5] G1 w_sf)] []) (fun _ k => XS.icmpNo X5.here hx rfl (hb hby d5_25) rfl (feq (fun q => hB6 (Or.inr q))).1 k) ?_
        refine gb (mkF m 29 #[vr a0, vi 1, vi (fn12U (1 : Int32) [u0, u1, u2, u3, u4, u5] G1 w_sf)] [(.int 0)]) (fun _ k => XS.iconst X5.here hx rfl (hb hby d5_28) k) ?_
        exact Gl.outN X5 hx hk (t := .boolean) Bd.returns (by simp) (hb hby d5_29) ⟨(congrArg (fun z => some (Value.int z)) (show nar .boolean (0 : Int32) = fn53U u0 u1 u2 u3 u4 u5 G1 w_sf by unfold fn53U; rw [if_pos hB3, if_neg hB6]; try rfl)), N5, e5⟩ (by decide) (by decide)
    rcases hB3 with q3 | q3
    · refine gb (mkF m 17 #[vr a0, vi 0, vi (fn12U (0 : Int32) [u0, u1, u2, u3, u4, u5] G1 w_sf)] [(.int (fn12U (0 : Int32) [u0, u1, u2, u3, u4, u5] G1 w_sf))]) (fun _ k => XS.iloadN X2.here hx rfl (hb hby d5_16) rfl k) ?_
      refine gb (mkF m 19 #[vr a0, vi 0, vi (fn12U (0 : Int32) [u0, u1, u2, u3, u4, u5] G1 w_sf)] [(.int 32), (.int (fn12U (0 : Int32) [u0, u1, u2, u3, u4, u5] G1 w_sf))]) (fun _ k => XS.bipush X2.here hx rfl (hb hby d5_17) k) ?_
      refine gb (mkF m 30 #[vr a0, vi 0, vi (fn12U (0 : Int32) [u0, u1, u2, u3, u4, u5] G1 w_sf)] []) (fun _ k => XS.icmpYes X2.here hx rfl (pc0 := 19) (pc' := 30) rfl (hb hby d5_19) rfl (teq q3).1 (by decide) (by decide) k) ?_
      exact J3 _ _ X2 e2 N2
    · refine gb (mkF m 17 #[vr a0, vi 0, vi (fn12U (0 : Int32) [u0, u1, u2, u3, u4, u5] G1 w_sf)] [(.int (fn12U (0 : Int32) [u0, u1, u2, u3, u4, u5] G1 w_sf))]) (fun _ k => XS.iloadN X2.here hx rfl (hb hby d5_16) rfl k) ?_
      refine gb (mkF m 19 #[vr a0, vi 0, vi (fn12U (0 : Int32) [u0, u1, u2, u3, u4, u5] G1 w_sf)] [(.int 32), (.int (fn12U (0 : Int32) [u0, u1, u2, u3, u4, u5] G1 w_sf))]) (fun _ k => XS.bipush X2.here hx rfl (hb hby d5_17) k) ?_
      refine gb (mkF m 22 #[vr a0, vi 0, vi (fn12U (0 : Int32) [u0, u1, u2, u3, u4, u5] G1 w_sf)] []) (fun _ k => XS.icmpNo X2.here hx rfl (hb hby d5_19) rfl (feq (fun z => absurd (q3.symm.trans z) (by decide))).1 k) ?_
      refine gb (mkF m 23 #[vr a0, vi 0, vi (fn12U (0 : Int32) [u0, u1, u2, u3, u4, u5] G1 w_sf)] [(.int (fn12U (0 : Int32) [u0, u1, u2, u3, u4, u5] G1 w_sf))]) (fun _ k => XS.iloadN X2.here hx rfl (hb hby d5_22) rfl k) ?_
      refine gb (mkF m 25 #[vr a0, vi 0, vi (fn12U (0 : Int32) [u0, u1, u2, u3, u4, u5] G1 w_sf)] [(.int 9), (.int (fn12U (0 : Int32) [u0, u1, u2, u3, u4, u5] G1 w_sf))]) (fun _ k => XS.bipush X2.here hx rfl (hb hby d5_23) k) ?_
      refine gb (mkF m 30 #[vr a0, vi 0, vi (fn12U (0 : Int32) [u0, u1, u2, u3, u4, u5] G1 w_sf)] []) (fun _ k => XS.icmpYes X2.here hx rfl (pc0 := 25) (pc' := 30) rfl (hb hby d5_25) rfl (teq q3).1 (by decide) (by decide) k) ?_
      exact J3 _ _ X2 e2 N2
  · refine gb (mkF m 17 #[vr a0, vi 0, vi (fn12U (0 : Int32) [u0, u1, u2, u3, u4, u5] G1 w_sf)] [(.int (fn12U (0 : Int32) [u0, u1, u2, u3, u4, u5] G1 w_sf))]) (fun _ k => XS.iloadN X2.here hx rfl (hb hby d5_16) rfl k) ?_
    refine gb (mkF m 19 #[vr a0, vi 0, vi (fn12U (0 : Int32) [u0, u1, u2, u3, u4, u5] G1 w_sf)] [(.int 32), (.int (fn12U (0 : Int32) [u0, u1, u2, u3, u4, u5] G1 w_sf))]) (fun _ k => XS.bipush X2.here hx rfl (hb hby d5_17) k) ?_
    refine gb (mkF m 22 #[vr a0, vi 0, vi (fn12U (0 : Int32) [u0, u1, u2, u3, u4, u5] G1 w_sf)] []) (fun _ k => XS.icmpNo X2.here hx rfl (hb hby d5_19) rfl (feq (fun q => hB3 (Or.inl q))).1 k) ?_
    refine gb (mkF m 23 #[vr a0, vi 0, vi (fn12U (0 : Int32) [u0, u1, u2, u3, u4, u5] G1 w_sf)] [(.int (fn12U (0 : Int32) [u0, u1, u2, u3, u4, u5] G1 w_sf))]) (fun _ k => XS.iloadN X2.here hx rfl (hb hby d5_22) rfl k) ?_
    refine gb (mkF m 25 #[vr a0, vi 0, vi (fn12U (0 : Int32) [u0, u1, u2, u3, u4, u5] G1 w_sf)] [(.int 9), (.int (fn12U (0 : Int32) [u0, u1, u2, u3, u4, u5] G1 w_sf))]) (fun _ k => XS.bipush X2.here hx rfl (hb hby d5_23) k) ?_
    refine gb (mkF m 28 #[vr a0, vi 0, vi (fn12U (0 : Int32) [u0, u1, u2, u3, u4, u5] G1 w_sf)] []) (fun _ k => XS.icmpNo X2.here hx rfl (hb hby d5_25) rfl (feq (fun q => hB3 (Or.inr q))).1 k) ?_
    refine gb (mkF m 29 #[vr a0, vi 0, vi (fn12U (0 : Int32) [u0, u1, u2, u3, u4, u5] G1 w_sf)] [(.int 0)]) (fun _ k => XS.iconst X2.here hx rfl (hb hby d5_28) k) ?_
    exact Gl.outN X2 hx hk (t := .boolean) Bd.returns (by simp) (hb hby d5_29) ⟨(congrArg (fun z => some (Value.int z)) (show nar .boolean (0 : Int32) = fn53U u0 u1 u2 u3 u4 u5 G1 w_sf by unfold fn53U; rw [if_neg hB3]; try rfl)), N2, e2⟩ (by decide) (by decide)
theorem ef54A (m : MethodId) (x0 : Addr) : entryFrame m #[(.ref x0)] 3 = mkF m 0 #[.val (.ref x0), .unset, .unset] [] := by first | (simp [entryFrame, mkF, argsToLocals, Value.category]; done) | rfl
def fn54A (u0 : Int32) (u1 : Int32) (u2 : Int32) (u3 : Int32) (G1 : Int32) (w_sf : Value) : Int32 := if (fn12A (0 : Int32) [u0, u1, u2, u3] G1 w_sf) = (32 : Int32) ∨ (fn12A (0 : Int32) [u0, u1, u2, u3] G1 w_sf) = (9 : Int32) then if (fn12A (1 : Int32) [u0, u1, u2, u3] G1 w_sf) = (32 : Int32) ∨ (fn12A (1 : Int32) [u0, u1, u2, u3] G1 w_sf) = (9 : Int32) then if (fn12A (2 : Int32) [u0, u1, u2, u3] G1 w_sf) = (32 : Int32) ∨ (fn12A (2 : Int32) [u0, u1, u2, u3] G1 w_sf) = (9 : Int32) then if (fn12A (3 : Int32) [u0, u1, u2, u3] G1 w_sf) = (32 : Int32) ∨ (fn12A (3 : Int32) [u0, u1, u2, u3] G1 w_sf) = (9 : Int32) then (1 : Int32) else (0 : Int32) else (0 : Int32) else (0 : Int32) else (0 : Int32)
def Q54A (Z : State) (a0 : Addr) (b : Addr) (kb : ClassId) (u0 : Int32) (u1 : Int32) (u2 : Int32) (u3 : Int32) (G1 : Int32) (w_sf : Value) (h0 : Heap) (n0 : Nat) (v : Option Value) (h : Heap) (L : List Loc) : Prop := v = some (.int (fn54A u0 u1 u2 u3 G1 w_sf)) ∧ Fr n0 L ∧ h = h0
theorem rm54A (l : Launch) (Z : State) (a0' : Array Value) (hw : ∀ d ∈ tables_1, d.before a0' Z = true) (ws : List Jvm.Cond) (a0 : Addr) (b : Addr) (kb : ClassId) (u0 : Int32) (u1 : Int32) (u2 : Int32) (u3 : Int32) (G1 : Int32) (w_sf : Value) (h0 : Heap) (n0 : Nat) (O : Old Z n0 h0) (W : Wd Z G1 w_sf) (pf0 : Exa Z h0 a0 "java/lang/String") (pf1 : Fld Z h0 a0 "java/lang/String" "value" "[B" (.ref b)) (pf2 : Fld Z h0 a0 "java/lang/String" "coder" "B" (.int 0)) (pf3 : Arv Z h0 b kb .byte (4 : Int32) [(.int u0), (.int u1), (.int u2), (.int u3)] (.int 0)) :
    MetFree l mq20 (head1 (Jvm.Cond.code mq20 prog_66_method_6_code 3 (some .boolean) :: ws) ({ frames := 4, cells := 0, slots := 0, locals := 53 } : Room)) (fun a U => a = #[(.ref a0)] ∧ Z.Warmed39 U.vm ∧ U.heap = h0) (fun _ _ _ _ _ => True) (fun _ U o U' => ∃ v L, o = .returned v ∧ Q54A Z a0 b kb u0 u1 u2 u3 G1 w_sf h0 n0 v U'.heap L ∧ FrameEnd U o U' L ({ frames := 4, cells := 0, slots := 0, locals := 53 } : Room).cells ({ frames := 4, cells := 0, slots := 0, locals := 53 } : Room).slots) := by
  refine MetFree.of_bodySF (plainFor_of_name pn4) hisR ?_
  intro p e s m args below meth c s₁ Bd hml0 hP hK
  obtain ⟨rfl, hZ, hh⟩ := hP
  have hx := Bd.exec
  have hby := Bd.bytes
  have hml : c.maxLocals = 3 := hml0
  have hown : s.vm.findClass "com/example/gatewarden/gatewarden/formats/PhysicalLines" = some m.cls := findClass_of_methodNamed Bd.named
  have hnm := (name_of_methodNamed Bd.named Bd.method).1
  have hk := Bd.notSynchronized
  have X0 : Stand p l e ({ frames := 4, cells := 0, slots := 0, locals := 53 } : Room) s m #[(.ref a0)] below meth c s₁ [] 0 0 := Stand.of_body Bd
  have hh2 := hh
  have e0 : s₁.heap = h0 := by rw [← hh, Bd.state]; rfl
  have N0 := Fr.nil n0
  show Gl p e below (Pos 0 0 (Q54A Z a0 b kb u0 u1 u2 u3 G1 w_sf h0 n0) s) s₁ _
  refine Gl.cast (ef54A m a0) ?_
  refine gb (mkF m 1 #[vr a0, .unset, .unset] [(.int 0)]) (fun _ k => XS.iconst X0.here hx rfl (hb hby d5_0) k) ?_
  refine gb (mkF m 2 #[vr a0, vi 0, .unset] []) (fun _ k => XS.istoreN X0.here hx rfl (hb hby d5_1) rfl (l' := #[vr a0, vi 0, .unset]) rfl k) ?_
  refine gb (mkF m 3 #[vr a0, vi 0, .unset] [(.int 0)]) (fun _ k => XS.iloadN X0.here hx rfl (hb hby d5_2) rfl k) ?_
  refine gb (mkF m 4 #[vr a0, vi 0, .unset] [(.ref a0), (.int 0)]) (fun _ k => XS.aloadN X0.here hx rfl (hb hby d5_3) rfl rfl k) ?_
  obtain ⟨cq1, kq1, q1a, q1b, q1c⟩ := isOf hZ e0 pf0
  obtain ⟨_, _, ⟨T1, L1, k1, n1⟩, -, X1, ⟨Lc1, hQ1, l1, y1, z1⟩, st1⟩ := X0.virtualBack hx (y := mq9) (z := mq9) hown (mvT hZ (hW hw 31 rfl)) (mvT hZ (hW hw 32 rfl)) (notFace_of_selects (args := #[]) (mvT hZ (hW hw 34 rfl))) (mvT hZ (hW hw 34 rfl)) (mvT hZ (hW hw 33 rfl)) (by decide) (backOf (W := 1) (rm6 l Z a0' hw [] a0 b (0 : Int32) kb [(.int u0), (.int u1), (.int u2), (.int u3)] (4 : Int32) G1 w_sf h0 n0 O W pf0 pf1 pf2 pf3) hZ (hW hw 35 rfl) (hW hw 8 rfl) (by decide) (by decide)) q1a q1c (g := (mkF m 4 #[vr a0, vi 0, .unset] [(.ref a0), (.int 0)])) rfl (by rw [hml]; rfl) (Steps.refl _) (argsL := []) (rest := [(.int 0)]) (lenOf pd274 rfl) rfl (Nat.le_of_eq rfl) (hb hby d5_4) (fun _ _ => ⟨rfl, e0, (by decide : 0 + 0 ≤ _), (by decide : 0 + 0 ≤ _)⟩)
  dsimp only [Pt.U, Pt.locs, Pt.cells, Pt.slots] at X1 l1 y1 z1 st1 hQ1
  subst l1 y1 z1
  obtain ⟨rfl, N1q, e1⟩ := hQ1
  have N1 := Fr.app N0 N1q
  refine gb (mkF m 7 #[vr a0, vi 0, .unset] [(.int ((4 : Int32) >>> (((0 : Int32).toInt8.toInt32) &&& 31))), (.int 0)]) (fun _ k => st1.trans k) ?_
  refine gb (mkF m 10 #[vr a0, vi 0, .unset] []) (fun _ k => XS.icmpNo X1.here hx rfl (hb hby d5_7) rfl (tlt (by decide : (0 : Int32) < ((4 : Int32) >>> (((0 : Int32).toInt8.toInt32) &&& 31)))).2.1 k) ?_
  refine gb (mkF m 11 #[vr a0, vi 0, .unset] [(.ref a0)]) (fun _ k => XS.aloadN X1.here hx rfl (hb hby d5_10) rfl rfl k) ?_
  refine gb (mkF m 12 #[vr a0, vi 0, .unset] [(.int 0), (.ref a0)]) (fun _ k => XS.iloadN X1.here hx rfl (hb hby d5_11) rfl k) ?_
  obtain ⟨cq2, kq2, q2a, q2b, q2c⟩ := isOf hZ e1 pf0
  obtain ⟨_, _, ⟨T2, L2, k2, n2⟩, -, X2, ⟨Lc2, hQ2, l2, y2, z2⟩, st2⟩ := X1.virtualBack hx (y := mq10) (z := mq10) hown (mvT hZ (hW hw 55 rfl)) (mvT hZ (hW hw 56 rfl)) (notFace_of_selects (args := #[]) (mvT hZ (hW hw 58 rfl))) (mvT hZ (hW hw 58 rfl)) (mvT hZ (hW hw 57 rfl)) (by decide) (backOf (W := 0) (rm12A l Z a0' hw [] a0 (0 : Int32) b kb (4 : Int32) [u0, u1, u2, u3] G1 w_sf h0 n0 O W pf0 pf1 pf2 pf3 (by decide) (by decide)) hZ (hW hw 59 rfl) (hW hw 8 rfl) (by decide) (by decide)) q2a q2c (g := (mkF m 12 #[vr a0, vi 0, .unset] [(.int 0), (.ref a0)])) rfl (by rw [hml]; rfl) (Steps.refl _) (argsL := [(.int 0)]) (rest := []) (lenOf pd289 rfl) rfl (Nat.le_of_eq rfl) (hb hby d5_12) (fun _ _ => ⟨rfl, e1, (by decide : 0 + 0 ≤ _), (by decide : 0 + 0 ≤ _)⟩)
  dsimp only [Pt.U, Pt.locs, Pt.cells, Pt.slots] at X2 l2 y2 z2 st2 hQ2
  subst l2 y2 z2
  obtain ⟨rfl, N2q, e2⟩ := hQ2
  have N2 := Fr.app N1 N2q
  refine gb (mkF m 15 #[vr a0, vi 0, .unset] [(.int (fn12A (0 : Int32) [u0, u1, u2, u3] G1 w_sf))]) (fun _ k => st2.trans k) ?_
  refine gb (mkF m 16 #[vr a0, vi 0, vi (fn12A (0 : Int32) [u0, u1, u2, u3] G1 w_sf)] []) (fun _ k => XS.istoreN X2.here hx rfl (hb hby d5_15) rfl (l' := #[vr a0, vi 0, vi (fn12A (0 : Int32) [u0, u1, u2, u3] G1 w_sf)]) rfl k) ?_
  by_cases hB3 : (fn12A (0 : Int32) [u0, u1, u2, u3] G1 w_sf) = (32 : Int32) ∨ (fn12A (0 : Int32) [u0, u1, u2, u3] G1 w_sf) = (9 : Int32)
  · have J3 : ∀ (T' : State) (lc : List Loc) (X' : Stand p l e ({ frames := 4, cells := 0, slots := 0, locals := 53 } : Room) s m #[(.ref a0)] below meth c T' lc 0 0) (eT : T'.heap = h0) (N' : Fr n0 lc), Gl p e below (Pos 0 0 (Q54A Z a0 b kb u0 u1 u2 u3 G1 w_sf h0 n0) s) T' (mkF m 30 #[vr a0, vi 0, vi (fn12A (0 : Int32) [u0, u1, u2, u3] G1 w_sf)] []) := by
      intro T' lc X' eT N'
      refine gb (mkF m 33 #[vr a0, vi 1, vi (fn12A (0 : Int32) [u0, u1, u2, u3] G1 w_sf)] []) (fun _ k => XS.iinc X'.here hx rfl (hb hby d5_30) rfl (l' := #[vr a0, vi 1, vi (fn12A (0 : Int32) [u0, u1, u2, u3] G1 w_sf)]) rfl k) ?_
      refine gb (mkF m 2 #[vr a0, vi 1, vi (fn12A (0 : Int32) [u0, u1, u2, u3] G1 w_sf)] []) (fun _ k => XS.goto X'.here hx rfl (pc0 := 33) (pc' := 2) rfl (hb hby d5_33) (by decide) (by decide) k) ?_
      refine gb (mkF m 3 #[vr a0, vi 1, vi (fn12A (0 : Int32) [u0, u1, u2, u3] G1 w_sf)] [(.int 1)]) (fun _ k => XS.iloadN X'.here hx rfl (hb hby d5_2) rfl k) ?_
      refine gb (mkF m 4 #[vr a0, vi 1, vi (fn12A (0 : Int32) [u0, u1, u2, u3] G1 w_sf)] [(.ref a0), (.int 1)]) (fun _ k => XS.aloadN X'.here hx rfl (hb hby d5_3) rfl rfl k) ?_
      obtain ⟨cq4, kq4, q4a, q4b, q4c⟩ := isOf hZ eT pf0
      obtain ⟨_, _, ⟨T4, L4, k4, n4⟩, -, X4, ⟨Lc4, hQ4, l4, y4, z4⟩, st4⟩ := X'.virtualBack hx (y := mq9) (z := mq9) hown (mvT hZ (hW hw 31 rfl)) (mvT hZ (hW hw 32 rfl)) (notFace_of_selects (args := #[]) (mvT hZ (hW hw 34 rfl))) (mvT hZ (hW hw 34 rfl)) (mvT hZ (hW hw 33 rfl)) (by decide) (backOf (W := 1) (rm6 l Z a0' hw [] a0 b (0 : Int32) kb [(.int u0), (.int u1), (.int u2), (.int u3)] (4 : Int32) G1 w_sf h0 n0 O W pf0 pf1 pf2 pf3) hZ (hW hw 35 rfl) (hW hw 8 rfl) (by decide) (by decide)) q4a q4c (g := (mkF m 4 #[vr a0, vi 1, vi (fn12A (0 : Int32) [u0, u1, u2, u3] G1 w_sf)] [(.ref a0), (.int 1)])) rfl (by rw [hml]; rfl) (Steps.refl _) (argsL := []) (rest := [(.int 1)]) (lenOf pd274 rfl) rfl (Nat.le_of_eq rfl) (hb hby d5_4) (fun _ _ => ⟨rfl, eT, (by decide : 0 + 0 ≤ _), (by decide : 0 + 0 ≤ _)⟩)
      dsimp only [Pt.U, Pt.locs, Pt.cells, Pt.slots] at X4 l4 y4 z4 st4 hQ4
      subst l4 y4 z4
      obtain ⟨rfl, N4q, e4⟩ := hQ4
      have N4 := Fr.app N' N4q
      refine gb (mkF m 7 #[vr a0, vi 1, vi (fn12A (0 : Int32) [u0, u1, u2, u3] G1 w_sf)] [(.int ((4 : Int32) >>> (((0 : Int32).toInt8.toInt32) &&& 31))), (.int 1)]) (fun _ k => st4.trans k) ?_
      refine gb (mkF m 10 #[vr a0, vi 1, vi (fn12A (0 : Int32) [u0, u1, u2, u3] G1 w_sf)] []) (fun _ k => XS.icmpNo X4.here hx rfl (hb hby d5_7) rfl (tlt (by decide : (1 : Int32) < ((4 : Int32) >>> (((0 : Int32).toInt8.toInt32) &&& 31)))).2.1 k) ?_
      refine gb (mkF m 11 #[vr a0, vi 1, vi (fn12A (0 : Int32) [u0, u1, u2, u3] G1 w_sf)] [(.ref a0)]) (fun _ k => XS.aloadN X4.here hx rfl (hb hby d5_10) rfl rfl k) ?_
      refine gb (mkF m 12 #[vr a0, vi 1, vi (fn12A (0 : Int32) [u0, u1, u2, u3] G1 w_sf)] [(.int 1), (.ref a0)]) (fun _ k => XS.iloadN X4.here hx rfl (hb hby d5_11) rfl k) ?_
      obtain ⟨cq5, kq5, q5a, q5b, q5c⟩ := isOf hZ e4 pf0
      obtain ⟨_, _, ⟨T5, L5, k5, n5⟩, -, X5, ⟨Lc5, hQ5, l5, y5, z5⟩, st5⟩ := X4.virtualBack hx (y := mq10) (z := mq10) hown (mvT hZ (hW hw 55 rfl)) (mvT hZ (hW hw 56 rfl)) (notFace_of_selects (args := #[]) (mvT hZ (hW hw 58 rfl))) (mvT hZ (hW hw 58 rfl)) (mvT hZ (hW hw 57 rfl)) (by decide) (backOf (W := 0) (rm12A l Z a0' hw [] a0 (1 : Int32) b kb (4 : Int32) [u0, u1, u2, u3] G1 w_sf h0 n0 O W pf0 pf1 pf2 pf3 (by decide) (by decide)) hZ (hW hw 59 rfl) (hW hw 8 rfl) (by decide) (by decide)) q5a q5c (g := (mkF m 12 #[vr a0, vi 1, vi (fn12A (0 : Int32) [u0, u1, u2, u3] G1 w_sf)] [(.int 1), (.ref a0)])) rfl (by rw [hml]; rfl) (Steps.refl _) (argsL := [(.int 1)]) (rest := []) (lenOf pd289 rfl) rfl (Nat.le_of_eq rfl) (hb hby d5_12) (fun _ _ => ⟨rfl, e4, (by decide : 0 + 0 ≤ _), (by decide : 0 + 0 ≤ _)⟩)
      dsimp only [Pt.U, Pt.locs, Pt.cells, Pt.slots] at X5 l5 y5 z5 st5 hQ5
      subst l5 y5 z5
      obtain ⟨rfl, N5q, e5⟩ := hQ5
      have N5 := Fr.app N4 N5q
      refine gb (mkF m 15 #[vr a0, vi 1, vi (fn12A (0 : Int32) [u0, u1, u2, u3] G1 w_sf)] [(.int (fn12A (1 : Int32) [u0, u1, u2, u3] G1 w_sf))]) (fun _ k => st5.trans k) ?_
      refine gb (mkF m 16 #[vr a0, vi 1, vi (fn12A (1 : Int32) [u0, u1, u2, u3] G1 w_sf)] []) (fun _ k => XS.istoreN X5.here hx rfl (hb hby d5_15) rfl (l' := #[vr a0, vi 1, vi (fn12A (1 : Int32) [u0, u1, u2, u3] G1 w_sf)]) rfl k) ?_
      by_cases hB6 : (fn12A (1 : Int32) [u0, u1, u2, u3] G1 w_sf) = (32 : Int32) ∨ (fn12A (1 : Int32) [u0, u1, u2, u3] G1 w_sf) = (9 : Int32)
      · have J6 : ∀ (T' : State) (lc : List Loc) (X' : Stand p l e ({ frames := 4, cells := 0, slots := 0, locals := 53 } : Room) s m #[(.ref a0)] below meth c T' lc 0 0) (eT : T'.heap = h0) (N' : Fr n0 lc), Gl p e below (Pos 0 0 (Q54A Z a0 b kb u0 u1 u2 u3 G1 w_sf h0 n0) s) T' (mkF m 30 #[vr a0, vi 1, vi (fn12A (1 : Int32) [u0, u1, u2, u3] G1 w_sf)] []) := by
          intro T' lc X' eT N'
          refine gb (mkF m 33 #[vr a0, vi 2, vi (fn12A (1 : Int32) [u0, u1, u2, u3] G1 w_sf)] []) (fun _ k => XS.iinc X'.here hx rfl (hb hby d5_30) rfl (l' := #[vr a0, vi 2, vi (fn12A (1 : Int32) [u0, u1, u2, u3] G1 w_sf)]) rfl k) ?_
          refine gb (mkF m 2 #[vr a0, vi 2, vi (fn12A (1 : Int32) [u0, u1, u2, u3] G1 w_sf)] []) (fun _ k => XS.goto X'.here hx rfl (pc0 := 33) (pc' := 2) rfl (hb hby d5_33) (by decide) (by decide) k) ?_
          refine gb (mkF m 3 #[vr a0, vi 2, vi (fn12A (1 : Int32) [u0, u1, u2, u3] G1 w_sf)] [(.int 2)]) (fun _ k => XS.iloadN X'.here hx rfl (hb hby d5_2) rfl k) ?_
          refine gb (mkF m 4 #[vr a0, vi 2, vi (fn12A (1 : Int32) [u0, u1, u2, u3] G1 w_sf)] [(.ref a0), (.int 2)]) (fun _ k => XS.aloadN X'.here hx rfl (hb hby d5_3) rfl rfl k) ?_
          obtain ⟨cq7, kq7, q7a, q7b, q7c⟩ := isOf hZ eT pf0
          obtain ⟨_, _, ⟨T7, L7, k7, n7⟩, -, X7, ⟨Lc7, hQ7, l7, y7, z7⟩, st7⟩ := X'.virtualBack hx (y := mq9) (z := mq9) hown (mvT hZ (hW hw 31 rfl)) (mvT hZ (hW hw 32 rfl)) (notFace_of_selects (args := #[]) (mvT hZ (hW hw 34 rfl))) (mvT hZ (hW hw 34 rfl)) (mvT hZ (hW hw 33 rfl)) (by decide) (backOf (W := 1) (rm6 l Z a0' hw [] a0 b (0 : Int32) kb [(.int u0), (.int u1), (.int u2), (.int u3)] (4 : Int32) G1 w_sf h0 n0 O W pf0 pf1 pf2 pf3) hZ (hW hw 35 rfl) (hW hw 8 rfl) (by decide) (by decide)) q7a q7c (g := (mkF m 4 #[vr a0, vi 2, vi (fn12A (1 : Int32) [u0, u1, u2, u3] G1 w_sf)] [(.ref a0), (.int 2)])) rfl (by rw [hml]; rfl) (Steps.refl _) (argsL := []) (rest := [(.int 2)]) (lenOf pd274 rfl) rfl (Nat.le_of_eq rfl) (hb hby d5_4) (fun _ _ => ⟨rfl, eT, (by decide : 0 + 0 ≤ _), (by decide : 0 + 0 ≤ _)⟩)
          dsimp only [Pt.U, Pt.locs, Pt.cells, Pt.slots] at X7 l7 y7 z7 st7 hQ7
          subst l7 y7 z7
          obtain ⟨rfl, N7q, e7⟩ := hQ7
          have N7 := Fr.app N' N7q
          refine gb (mkF m 7 #[vr a0, vi 2, vi (fn12A (1 : Int32) [u0, u1, u2, u3] G1 w_sf)] [(.int ((4 : Int32) >>> (((0 : Int32).toInt8.toInt32) &&& 31))), (.int 2)]) (fun _ k => st7.trans k) ?_
          refine gb (mkF m 10 #[vr a0, vi 2, vi (fn12A (1 : Int32) [u0, u1, u2, u3] G1 w_sf)] []) (fun _ k => XS.icmpNo X7.here hx rfl (hb hby d5_7) rfl (tlt (by decide : (2 : Int32) < ((4 : Int32) >>> (((0 : Int32).toInt8.toInt32) &&& 31)))).2.1 k) ?_
          refine gb (mkF m 11 #[vr a0, vi 2, vi (fn12A (1 : Int32) [u0, u1, u2, u3] G1 w_sf)] [(.ref a0)]) (fun _ k => XS.aloadN X7.here hx rfl (hb hby d5_10) rfl rfl k) ?_
          refine gb (mkF m 12 #[vr a0, vi 2, vi (fn12A (1 : Int32) [u0, u1, u2, u3] G1 w_sf)] [(.int 2), (.ref a0)]) (fun _ k => XS.iloadN X7.here hx rfl (hb hby d5_11) rfl k) ?_
          obtain ⟨cq8, kq8, q8a, q8b, q8c⟩ := isOf hZ e7 pf0
          obtain ⟨_, _, ⟨T8, L8, k8, n8⟩, -, X8, ⟨Lc8, hQ8, l8, y8, z8⟩, st8⟩ := X7.virtualBack hx (y := mq10) (z := mq10) hown (mvT hZ (hW hw 55 rfl)) (mvT hZ (hW hw 56 rfl)) (notFace_of_selects (args := #[]) (mvT hZ (hW hw 58 rfl))) (mvT hZ (hW hw 58 rfl)) (mvT hZ (hW hw 57 rfl)) (by decide) (backOf (W := 0) (rm12A l Z a0' hw [] a0 (2 : Int32) b kb (4 : Int32) [u0, u1, u2, u3] G1 w_sf h0 n0 O W pf0 pf1 pf2 pf3 (by decide) (by decide)) hZ (hW hw 59 rfl) (hW hw 8 rfl) (by decide) (by decide)) q8a q8c (g := (mkF m 12 #[vr a0, vi 2, vi (fn12A (1 : Int32) [u0, u1, u2, u3] G1 w_sf)] [(.int 2), (.ref a0)])) rfl (by rw [hml]; rfl) (Steps.refl _) (argsL := [(.int 2)]) (rest := []) (lenOf pd289 rfl) rfl (Nat.le_of_eq rfl) (hb hby d5_12) (fun _ _ => ⟨rfl, e7, (by decide : 0 + 0 ≤ _), (by decide : 0 + 0 ≤ _)⟩)
          dsimp only [Pt.U, Pt.locs, Pt.cells, Pt.slots] at X8 l8 y8 z8 st8 hQ8
          subst l8 y8 z8
          obtain ⟨rfl, N8q, e8⟩ := hQ8
          have N8 := Fr.app N7 N8q
          refine gb (mkF m 15 #[vr a0, vi 2, vi (fn12A (1 : Int32) [u0, u1, u2, u3] G1 w_sf)] [(.int (fn12A (2 : Int32) [u0, u1, u2, u3] G1 w_sf))]) (fun _ k => st8.trans k) ?_
          refine gb (mkF m 16 #[vr a0, vi 2, vi (fn12A (2 : Int32) [u0, u1, u2, u3] G1 w_sf)] []) (fun _ k => XS.istoreN X8.here hx rfl (hb hby d5_15) rfl (l' := #[vr a0, vi 2, vi (fn12A (2 : Int32) [u0, u1, u2, u3] G1 w_sf)]) rfl k) ?_
          by_cases hB9 : (fn12A (2 : Int32) [u0, u1, u2, u3] G1 w_sf) = (32 : Int32) ∨ (fn12A (2 : Int32) [u0, u1, u2, u3] G1 w_sf) = (9 : Int32)
          · have J9 : ∀ (T' : State) (lc : List Loc) (X' : Stand p l e ({ frames := 4, cells := 0, slots := 0, locals := 53 } : Room) s m #[(.ref a0)] below meth c T' lc 0 0) (eT : T'.heap = h0) (N' : Fr n0 lc), Gl p e below (Pos 0 0 (Q54A Z a0 b kb u0 u1 u2 u3 G1 w_sf h0 n0) s) T' (mkF m 30 #[vr a0, vi 2, vi (fn12A (2 : Int32) [u0, u1, u2, u3] G1 w_sf)] []) := by
              intro T' lc X' eT N'
              refine gb (mkF m 33 #[vr a0, vi 3, vi (fn12A (2 : Int32) [u0, u1, u2, u3] G1 w_sf)] []) (fun _ k => XS.iinc X'.here hx rfl (hb hby d5_30) rfl (l' := #[vr a0, vi 3, vi (fn12A (2 : Int32) [u0, u1, u2, u3] G1 w_sf)]) rfl k) ?_
              refine gb (mkF m 2 #[vr a0, vi 3, vi (fn12A (2 : Int32) [u0, u1, u2, u3] G1 w_sf)] []) (fun _ k => XS.goto X'.here hx rfl (pc0 := 33) (pc' := 2) rfl (hb hby d5_33) (by decide) (by decide) k) ?_
              refine gb (mkF m 3 #[vr a0, vi 3, vi (fn12A (2 : Int32) [u0, u1, u2, u3] G1 w_sf)] [(.int 3)]) (fun _ k => XS.iloadN X'.here hx rfl (hb hby d5_2) rfl k) ?_
              refine gb (mkF m 4 #[vr a0, vi 3, vi (fn12A (2 : Int32) [u0, u1, u2, u3] G1 w_sf)] [(.ref a0), (.int 3)]) (fun _ k => XS.aloadN X'.here hx rfl (hb hby d5_3) rfl rfl k) ?_
              obtain ⟨cq10, kq10, q10a, q10b, q10c⟩ := isOf hZ eT pf0
              obtain ⟨_, _, ⟨T10, L10, k10, n10⟩, -, X10, ⟨Lc10, hQ10, l10, y10, z10⟩, st10⟩ := X'.virtualBack hx (y := mq9) (z := mq9) hown (mvT hZ (hW hw 31 rfl)) (mvT hZ (hW hw 32 rfl)) (notFace_of_selects (args := #[]) (mvT hZ (hW hw 34 rfl))) (mvT hZ (hW hw 34 rfl)) (mvT hZ (hW hw 33 rfl)) (by decide) (backOf (W := 1) (rm6 l Z a0' hw [] a0 b (0 : Int32) kb [(.int u0), (.int u1), (.int u2), (.int u3)] (4 : Int32) G1 w_sf h0 n0 O W pf0 pf1 pf2 pf3) hZ (hW hw 35 rfl) (hW hw 8 rfl) (by decide) (by decide)) q10a q10c (g := (mkF m 4 #[vr a0, vi 3, vi (fn12A (2 : Int32) [u0, u1, u2, u3] G1 w_sf)] [(.ref a0), (.int 3)])) rfl (by rw [hml]; rfl) (Steps.refl _) (argsL := []) (rest := [(.int 3)]) (lenOf pd274 rfl) rfl (Nat.le_of_eq rfl) (hb hby d5_4) (fun _ _ => ⟨rfl, eT, (by decide : 0 + 0 ≤ _), (by decide : 0 + 0 ≤ _)⟩)
              dsimp only [Pt.U, Pt.locs, Pt.cells, Pt.slots] at X10 l10 y10 z10 st10 hQ10
              subst l10 y10 z10
              obtain ⟨rfl, N10q, e10⟩ := hQ10
              have N10 := Fr.app N' N10q
              refine gb (mkF m 7 #[vr a0, vi 3, vi (fn12A (2 : Int32) [u0, u1, u2, u3] G1 w_sf)] [(.int ((4 : Int32) >>> (((0 : Int32).toInt8.toInt32) &&& 31))), (.int 3)]) (fun _ k => st10.trans k) ?_
              refine gb (mkF m 10 #[vr a0, vi 3, vi (fn12A (2 : Int32) [u0, u1, u2, u3] G1 w_sf)] []) (fun _ k => XS.icmpNo X10.here hx rfl (hb hby d5_7) rfl (tlt (by decide : (3 : Int32) < ((4 : Int32) >>> (((0 : Int32).toInt8.toInt32) &&& 31)))).2.1 k) ?_
              refine gb (mkF m 11 #[vr a0, vi 3, vi (fn12A (2 : Int32) [u0, u1, u2, u3] G1 w_sf)] [(.ref a0)]) (fun _ k => XS.aloadN X10.here hx rfl (hb hby d5_10) rfl rfl k) ?_
              refine gb (mkF m 12 #[vr a0, vi 3, vi (fn12A (2 : Int32) [u0, u1, u2, u3] G1 w_sf)] [(.int 3), (.ref a0)]) (fun _ k => XS.iloadN X10.here hx rfl (hb hby d5_11) rfl k) ?_
              obtain ⟨cq11, kq11, q11a, q11b, q11c⟩ := isOf hZ e10 pf0
              obtain ⟨_, _, ⟨T11, L11, k11, n11⟩, -, X11, ⟨Lc11, hQ11, l11, y11, z11⟩, st11⟩ := X10.virtualBack hx (y := mq10) (z := mq10) hown (mvT hZ (hW hw 55 rfl)) (mvT hZ (hW hw 56 rfl)) (notFace_of_selects (args := #[]) (mvT hZ (hW hw 58 rfl))) (mvT hZ (hW hw 58 rfl)) (mvT hZ (hW hw 57 rfl)) (by decide) (backOf (W := 0) (rm12A l Z a0' hw [] a0 (3 : Int32) b kb (4 : Int32) [u0, u1, u2, u3] G1 w_sf h0 n0 O W pf0 pf1 pf2 pf3 (by decide) (by decide)) hZ (hW hw 59 rfl) (hW hw 8 rfl) (by decide) (by decide)) q11a q11c (g := (mkF m 12 #[vr a0, vi 3, vi (fn12A (2 : Int32) [u0, u1, u2, u3] G1 w_sf)] [(.int 3), (.ref a0)])) rfl (by rw [hml]; rfl) (Steps.refl _) (argsL := [(.int 3)]) (rest := []) (lenOf pd289 rfl) rfl (Nat.le_of_eq rfl) (hb hby d5_12) (fun _ _ => ⟨rfl, e10, (by decide : 0 + 0 ≤ _), (by decide : 0 + 0 ≤ _)⟩)
              dsimp only [Pt.U, Pt.locs, Pt.cells, Pt.slots] at X11 l11 y11 z11 st11 hQ11
              subst l11 y11 z11
              obtain ⟨rfl, N11q, e11⟩ := hQ11
              have N11 := Fr.app N10 N11q
              refine gb (mkF m 15 #[vr a0, vi 3, vi (fn12A (2 : Int32) [u0, u1, u2, u3] G1 w_sf)] [(.int (fn12A (3 : Int32) [u0, u1, u2, u3] G1 w_sf))]) (fun _ k => st11.trans k) ?_
              refine gb (mkF m 16 #[vr a0, vi 3, vi (fn12A (3 : Int32) [u0, u1, u2, u3] G1 w_sf)] []) (fun _ k => XS.istoreN X11.here hx rfl (hb hby d5_15) rfl (l' := #[vr a0, vi 3, vi (fn12A (3 : Int32) [u0, u1, u2, u3] G1 w_sf)]) rfl k) ?_
              by_cases hB12 : (fn12A (3 : Int32) [u0, u1, u2, u3] G1 w_sf) = (32 : Int32) ∨ (fn12A (3 : Int32) [u0, u1, u2, u3] G1 w_sf) = (9 : Int32)
              · have J12 : ∀ (T' : State) (lc : List Loc) (X' : Stand p l e ({ frames := 4, cells := 0, slots := 0, locals := 53 } : Room) s m #[(.ref a0)] below meth c T' lc 0 0) (eT : T'.heap = h0) (N' : Fr n0 lc), Gl p e below (Pos 0 0 (Q54A Z a0 b kb u0 u1 u2 u3 G1 w_sf h0 n0) s) T' (mkF m 30 #[vr a0, vi 3, vi (fn12A (3 : Int32) [u0, u1, u2, u3] G1 w_sf)] []) := by
                  intro T' lc X' eT N'
                  refine gb (mkF m 33 #[vr a0, vi 4, vi (fn12A (3 : Int32) [u0, u1, u2, u3] G1 w_sf)] []) (fun _ k => XS.iinc X'.here hx rfl (hb hby d5_30) rfl (l' := #[vr a0, vi 4, vi (fn12A (3 : Int32) [u0, u1, u2, u3] G1 w_sf)]) rfl k) ?_
                  refine gb (mkF m 2 #[vr a0, vi 4, vi (fn12A (3 : Int32) [u0, u1, u2, u3] G1 w_sf)] []) (fun _ k => XS.goto X'.here hx rfl (pc0 := 33) (pc' := 2) rfl (hb hby d5_33) (by decide) (by decide) k) ?_
                  refine gb (mkF m 3 #[vr a0, vi 4, vi (fn12A (3 : Int32) [u0, u1, u2, u3] G1 w_sf)] [(.int 4)]) (fun _ k => XS.iloadN X'.here hx rfl (hb hby d5_2) rfl k) ?_
                  refine gb (mkF m 4 #[vr a0, vi 4, vi (fn12A (3 : Int32) [u0, u1, u2, u3] G1 w_sf)] [(.ref a0), (.int 4)]) (fun _ k => XS.aloadN X'.here hx rfl (hb hby d5_3) rfl rfl k) ?_
                  obtain ⟨cq13, kq13, q13a, q13b, q13c⟩ := isOf hZ eT pf0
                  obtain ⟨_, _, ⟨T13, L13, k13, n13⟩, -, X13, ⟨Lc13, hQ13, l13, y13, z13⟩, st13⟩ := X'.virtualBack hx (y := mq9) (z := mq9) hown (mvT hZ (hW hw 31 rfl)) (mvT hZ (hW hw 32 rfl)) (notFace_of_selects (args := #[]) (mvT hZ (hW hw 34 rfl))) (mvT hZ (hW hw 34 rfl)) (mvT hZ (hW hw 33 rfl)) (by decide) (backOf (W := 1) (rm6 l Z a0' hw [] a0 b (0 : Int32) kb [(.int u0), (.int u1), (.int u2), (.int u3)] (4 : Int32) G1 w_sf h0 n0 O W pf0 pf1 pf2 pf3) hZ (hW hw 35 rfl) (hW hw 8 rfl) (by decide) (by decide)) q13a q13c (g := (mkF m 4 #[vr a0, vi 4, vi (fn12A (3 : Int32) [u0, u1, u2, u3] G1 w_sf)] [(.ref a0), (.int 4)])) rfl (by rw [hml]; rfl) (Steps.refl _) (argsL := []) (rest := [(.int 4)]) (lenOf pd274 rfl) rfl (Nat.le_of_eq rfl) (hb hby d5_4) (fun _ _ => ⟨rfl, eT, (by decide : 0 + 0 ≤ _), (by decide : 0 + 0 ≤ _)⟩)
                  dsimp only [Pt.U, Pt.locs, Pt.cells, Pt.slots] at X13 l13 y13 z13 st13 hQ13
                  subst l13 y13 z13
                  obtain ⟨rfl, N13q, e13⟩ := hQ13
                  have N13 := Fr.app N' N13q
                  refine gb (mkF m 7 #[vr a0, vi 4, vi (fn12A (3 : Int32) [u0, u1, u2, u3] G1 w_sf)] [(.int ((4 : Int32) >>> (((0 : Int32).toInt8.toInt32) &&& 31))), (.int 4)]) (fun _ k => st13.trans k) ?_
                  refine gb (mkF m 36 #[vr a0, vi 4, vi (fn12A (3 : Int32) [u0, u1, u2, u3] G1 w_sf)] []) (fun _ k => XS.icmpYes X13.here hx rfl (pc0 := 7) (pc' := 36) rfl (hb hby d5_7) rfl (flt (by decide : ¬ ((4 : Int32) < ((4 : Int32) >>> (((0 : Int32).toInt8.toInt32) &&& 31))))).2.1 (by decide) (by decide) k) ?_
                  refine gb (mkF m 37 #[vr a0, vi 4, vi (fn12A (3 : Int32) [u0, u1, u2, u3] G1 w_sf)] [(.int 1)]) (fun _ k => XS.iconst X13.here hx rfl (hb hby d5_36) k) ?_
                  exact Gl.outN X13 hx hk (t := .boolean) Bd.returns (by simp) (hb hby d5_37) ⟨(congrArg (fun z => some (Value.int z)) (show nar .boolean (1 : Int32) = fn54A u0 u1 u2 u3 G1 w_sf by unfold fn54A; rw [if_pos hB3, if_pos hB6, if_pos hB9, if_pos hB12]; try rfl)), N13, e13⟩ (by decide) (by decide)
                rcases hB12 with q12 | q12
                · refine gb (mkF m 17 #[vr a0, vi 3, vi (fn12A (3 : Int32) [u0, u1, u2, u3] G1 w_sf)] [(.int (fn12A (3 : Int32) [u0, u1, u2, u3] G1 w_sf))]) (fun _ k => XS.iloadN X11.here hx rfl (hb hby d5_16) rfl k) ?_
                  refine gb (mkF m 19 #[vr a0, vi 3, vi (fn12A (3 : Int32) [u0, u1, u2, u3] G1 w_sf)] [(.int 32), (.int (fn12A (3 : Int32) [u0, u1, u2, u3] G1 w_sf))]) (fun _ k => XS.bipush X11.here hx rfl (hb hby d5_17) k) ?_
                  refine gb (mkF m 30 #[vr a0, vi 3, vi (fn12A (3 : Int32) [u0, u1, u2, u3] G1 w_sf)] []) (fun _ k => XS.icmpYes X11.here hx rfl (pc0 := 19) (pc' := 30) rfl (hb hby d5_19) rfl (teq q12).1 (by decide) (by decide) k) ?_
                  exact J12 _ _ X11 e11 N11
                · refine gb (mkF m 17 #[vr a0, vi 3, vi (fn12A (3 : Int32) [u0, u1, u2, u3] G1 w_sf)] [(.int (fn12A (3 : Int32) [u0, u1, u2, u3] G1 w_sf))]) (fun _ k => XS.iloadN X11.here hx rfl (hb hby d5_16) rfl k) ?_
                  refine gb (mkF m 19 #[vr a0, vi 3, vi (fn12A (3 : Int32) [u0, u1, u2, u3] G1 w_sf)] [(.int 32), (.int (fn12A (3 : Int32) [u0, u1, u2, u3] G1 w_sf))]) (fun _ k => XS.bipush X11.here hx rfl (hb hby d5_17) k) ?_
                  refine gb (mkF m 22 #[vr a0, vi 3, vi (fn12A (3 : Int32) [u0, u1, u2, u3] G1 w_sf)] []) (fun _ k => XS.icmpNo X11.here hx rfl (hb hby d5_19) rfl (feq (fun z => absurd (q12.symm.trans z) (by decide))).1 k) ?_
                  refine gb (mkF m 23 #[vr a0, vi 3, vi (fn12A (3 : Int32) [u0, u1, u2, u3] G1 w_sf)] [(.int (fn12A (3 : Int32) [u0, u1, u2, u3] G1 w_sf))]) (fun _ k => XS.iloadN X11.here hx rfl (hb hby d5_22) rfl k) ?_
                  refine gb (mkF m 25 #[vr a0, vi 3, vi (fn12A (3 : Int32) [u0, u1, u2, u3] G1 w_sf)] [(.int 9), (.int (fn12A (3 : Int32) [u0, u1, u2, u3] G1 w_sf))]) (fun _ k => XS.bipush X11.here hx rfl (hb hby d5_23) k) ?_
                  refine gb (mkF m 30 #[vr a0, vi 3, vi (fn12A (3 : Int32) [u0, u1, u2, u3] G1 w_sf)] []) (fun _ k => XS.icmpYes X11.here hx rfl (pc0 := 25) (pc' := 30) rfl (hb hby d5_25) rfl (teq q12).1 (by decide) (by decide) k) ?_
                  exact J12 _ _ X11 e11 N11
              · refine gb (mkF m 17 #[vr a0, vi 3, vi (fn12A (3 : Int32) [u0, u1, u2, u3] G1 w_sf)] [(.int (fn12A (3 : Int32) [u0, u1, u2, u3] G1 w_sf))]) (fun _ k => XS.iloadN X11.here hx rfl (hb hby d5_16) rfl k) ?_
                refine gb (mkF m 19 #[vr a0, vi 3, vi (fn12A (3 : Int32) [u0, u1, u2, u3] G1 w_sf)] [(.int 32), (.int (fn12A (3 : Int32) [u0, u1, u2, u3] G1 w_sf))]) (fun _ k => XS.bipush X11.here hx rfl (hb hby d5_17) k) ?_
                refine gb (mkF m 22 #[vr a0, vi 3, vi (fn12A (3 : Int32) [u0, u1, u2, u3] G1 w_sf)] []) (fun _ k => XS.icmpNo X11.here hx rfl (hb hby d5_19) rfl (feq (fun q => hB12 (Or.inl q))).1 k) ?_
                refine gb (mkF m 23 #[vr a0, vi 3, vi (fn12A (3 : Int32) [u0, u1, u2, u3] G1 w_sf)] [(.int (fn12A (3 : Int32) [u0, u1, u2, u3] G1 w_sf))]) (fun _ k => XS.iloadN X11.here hx rfl (hb hby d5_22) rfl k) ?_
                refine gb (mkF m 25 #[vr a0, vi 3, vi (fn12A (3 : Int32) [u0, u1, u2, u3] G1 w_sf)] [(.int 9), (.int (fn12A (3 : Int32) [u0, u1, u2, u3] G1 w_sf))]) (fun _ k => XS.bipush X11.here hx rfl (hb hby d5_23) k) ?_
                refine gb (mkF m 28 #[vr a0, vi 3, vi (fn12A (3 : Int32) [u0, u1, u2, u3] G1 w_sf)] []) (fun _ k => XS.icmpNo X11.here hx rfl (hb hby d5_25) rfl (feq (fun q => hB12 (Or.inr q))).1 k) ?_
                refine gb (mkF m 29 #[vr a0, vi 3, vi (fn12A (3 : Int32) [u0, u1, u2, u3] G1 w_sf)] [(.int 0)]) (fun _ k => XS.iconst X11.here hx rfl (hb hby d5_28) k) ?_
                exact Gl.outN X11 hx hk (t := .boolean) Bd.returns (by simp) (hb hby d5_29) ⟨(congrArg (fun z => some (Value.int z)) (show nar .boolean (0 : Int32) = fn54A u0 u1 u2 u3 G1 w_sf by unfold fn54A; rw [if_pos hB3, if_pos hB6, if_pos hB9, if_neg hB12]; try rfl)), N11, e11⟩ (by decide) (by decide)
            rcases hB9 with q9 | q9
            · refine gb (mkF m 17 #[vr a0, vi 2, vi (fn12A (2 : Int32) [u0, u1, u2, u3] G1 w_sf)] [(.int (fn12A (2 : Int32) [u0, u1, u2, u3] G1 w_sf))]) (fun _ k => XS.iloadN X8.here hx rfl (hb hby d5_16) rfl k) ?_
              refine gb (mkF m 19 #[vr a0, vi 2, vi (fn12A (2 : Int32) [u0, u1, u2, u3] G1 w_sf)] [(.int 32), (.int (fn12A (2 : Int32) [u0, u1, u2, u3] G1 w_sf))]) (fun _ k => XS.bipush X8.here hx rfl (hb hby d5_17) k) ?_
              refine gb (mkF m 30 #[vr a0, vi 2, vi (fn12A (2 : Int32) [u0, u1, u2, u3] G1 w_sf)] []) (fun _ k => XS.icmpYes X8.here hx rfl (pc0 := 19) (pc' := 30) rfl (hb hby d5_19) rfl (teq q9).1 (by decide) (by decide) k) ?_
              exact J9 _ _ X8 e8 N8
            · refine gb (mkF m 17 #[vr a0, vi 2, vi (fn12A (2 : Int32) [u0, u1, u2, u3] G1 w_sf)] [(.int (fn12A (2 : Int32) [u0, u1, u2, u3] G1 w_sf))]) (fun _ k => XS.iloadN X8.here hx rfl (hb hby d5_16) rfl k) ?_
              refine gb (mkF m 19 #[vr a0, vi 2, vi (fn12A (2 : Int32) [u0, u1, u2, u3] G1 w_sf)] [(.int 32), (.int (fn12A (2 : Int32) [u0, u1, u2, u3] G1 w_sf))]) (fun _ k => XS.bipush X8.here hx rfl (hb hby d5_17) k) ?_
              refine gb (mkF m 22 #[vr a0, vi 2, vi (fn12A (2 : Int32) [u0, u1, u2, u3] G1 w_sf)] []) (fun _ k => XS.icmpNo X8.here hx rfl (hb hby d5_19) rfl (feq (fun z => absurd (q9.symm.trans z) (by decide))).1 k) ?_
              refine gb (mkF m 23 #[vr a0, vi 2, vi (fn12A (2 : Int32) [u0, u1, u2, u3] G1 w_sf)] [(.int (fn12A (2 : Int32) [u0, u1, u2, u3] G1 w_sf))]) (fun _ k => XS.iloadN X8.here hx rfl (hb hby d5_22) rfl k) ?_
              refine gb (mkF m 25 #[vr a0, vi 2, vi (fn12A (2 : Int32) [u0, u1, u2, u3] G1 w_sf)] [(.int 9), (.int (fn12A (2 : Int32) [u0, u1, u2, u3] G1 w_sf))]) (fun _ k => XS.bipush X8.here hx rfl (hb hby d5_23) k) ?_
              refine gb (mkF m 30 #[vr a0, vi 2, vi (fn12A (2 : Int32) [u0, u1, u2, u3] G1 w_sf)] []) (fun _ k => XS.icmpYes X8.here hx rfl (pc0 := 25) (pc' := 30) rfl (hb hby d5_25) rfl (teq q9).1 (by decide) (by decide) k) ?_
              exact J9 _ _ X8 e8 N8
          · refine gb (mkF m 17 #[vr a0, vi 2, vi (fn12A (2 : Int32) [u0, u1, u2, u3] G1 w_sf)] [(.int (fn12A (2 : Int32) [u0, u1, u2, u3] G1 w_sf))]) (fun _ k => XS.iloadN X8.here hx rfl (hb hby d5_16) rfl k) ?_
            refine gb (mkF m 19 #[vr a0, vi 2, vi (fn12A (2 : Int32) [u0, u1, u2, u3] G1 w_sf)] [(.int 32), (.int (fn12A (2 : Int32) [u0, u1, u2, u3] G1 w_sf))]) (fun _ k => XS.bipush X8.here hx rfl (hb hby d5_17) k) ?_
            refine gb (mkF m 22 #[vr a0, vi 2, vi (fn12A (2 : Int32) [u0, u1, u2, u3] G1 w_sf)] []) (fun _ k => XS.icmpNo X8.here hx rfl (hb hby d5_19) rfl (feq (fun q => hB9 (Or.inl q))).1 k) ?_
            refine gb (mkF m 23 #[vr a0, vi 2, vi (fn12A (2 : Int32) [u0, u1, u2, u3] G1 w_sf)] [(.int (fn12A (2 : Int32) [u0, u1, u2, u3] G1 w_sf))]) (fun _ k => XS.iloadN X8.here hx rfl (hb hby d5_22) rfl k) ?_
            refine gb (mkF m 25 #[vr a0, vi 2, vi (fn12A (2 : Int32) [u0, u1, u2, u3] G1 w_sf)] [(.int 9), (.int (fn12A (2 : Int32) [u0, u1, u2, u3] G1 w_sf))]) (fun _ k => XS.bipush X8.here hx rfl (hb hby d5_23) k) ?_
            refine gb (mkF m 28 #[vr a0, vi 2, vi (fn12A (2 : Int32) [u0, u1, u2, u3] G1 w_sf)] []) (fun _ k => XS.icmpNo X8.here hx rfl (hb hby d5_25) rfl (feq (fun q => hB9 (Or.inr q))).1 k) ?_
            refine gb (mkF m 29 #[vr a0, vi 2, vi (fn12A (2 : Int32) [u0, u1, u2, u3] G1 w_sf)] [(.int 0)]) (fun _ k => XS.iconst X8.here hx rfl (hb hby d5_28) k) ?_
            exact Gl.outN X8 hx hk (t := .boolean) Bd.returns (by simp) (hb hby d5_29) ⟨(congrArg (fun z => some (Value.int z)) (show nar .boolean (0 : Int32) = fn54A u0 u1 u2 u3 G1 w_sf by unfold fn54A; rw [if_pos hB3, if_pos hB6, if_neg hB9]; try rfl)), N8, e8⟩ (by decide) (by decide)
        rcases hB6 with q6 | q6
        · refine gb (mkF m 17 #[vr a0, vi 1, vi (fn12A (1 : Int32) [u0, u1, u2, u3] G1 w_sf)] [(.int (fn12A (1 : Int32) [u0, u1, u2, u3] G1 w_sf))]) (fun _ k => XS.iloadN X5.here hx rfl (hb hby d5_16) rfl k) ?_
          refine gb (mkF m 19 #[vr a0, vi 1, vi (fn12A (1 : Int32) [u0, u1, u2, u3] G1 w_sf)] [(.int 32), (.int (fn12A (1 : Int32) [u0, u1, u2, u3] G1 w_sf))]) (fun _ k => XS.bipush X5.here hx rfl (hb hby d5_17) k) ?_
          refine gb (mkF m 30 #[vr a0, vi 1, vi (fn12A (1 : Int32) [u0, u1, u2, u3] G1 w_sf)] []) (fun _ k => XS.icmpYes X5.here hx rfl (pc0 := 19) (pc' := 30) rfl (hb hby d5_19) rfl (teq q6).1 (by decide) (by decide) k) ?_
          exact J6 _ _ X5 e5 N5
        · refine gb (mkF m 17 #[vr a0, vi 1, vi (fn12A (1 : Int32) [u0, u1, u2, u3] G1 w_sf)] [(.int (fn12A (1 : Int32) [u0, u1, u2, u3] G1 w_sf))]) (fun _ k => XS.iloadN X5.here hx rfl (hb hby d5_16) rfl k) ?_
          refine gb (mkF m 19 #[vr a0, vi 1, vi (fn12A (1 : Int32) [u0, u1, u2, u3] G1 w_sf)] [(.int 32), (.int (fn12A (1 : Int32) [u0, u1, u2, u3] G1 w_sf))]) (fun _ k => XS.bipush X5.here hx rfl (hb hby d5_17) k) ?_
          refine gb (mkF m 22 #[vr a0, vi 1, vi (fn12A (1 : Int32) [u0, u1, u2, u3] G1 w_sf)] []) (fun _ k => XS.icmpNo X5.here hx rfl (hb hby d5_19) rfl (feq (fun z => absurd (q6.symm.trans z) (by decide))).1 k) ?_
          refine gb (mkF m 23 #[vr a0, vi 1, vi (fn12A (1 : Int32) [u0, u1, u2, u3] G1 w_sf)] [(.int (fn12A (1 : Int32) [u0, u1, u2, u3] G1 w_sf))]) (fun _ k => XS.iloadN X5.here hx rfl (hb hby d5_22) rfl k) ?_
          refine gb (mkF m 25 #[vr a0, vi 1, vi (fn12A (1 : Int32) [u0, u1, u2, u3] G1 w_sf)] [(.int 9), (.int (fn12A (1 : Int32) [u0, u1, u2, u3] G1 w_sf))]) (fun _ k => XS.bipush X5.here hx rfl (hb hby d5_23) k) ?_
          refine gb (mkF m 30 #[vr a0, vi 1, vi (fn12A (1 : Int32) [u0, u1, u2, u3] G1 w_sf)] []) (fun _ k => XS.icmpYes X5.here hx rfl (pc0 := 25) (pc' := 30) rfl (hb hby d5_25) rfl (teq q6).1 (by decide) (by decide) k) ?_
          exact J6 _ _ X5 e5 N5
      · refine gb (mkF m 17 #[vr a0, vi 1, vi (fn12A (1 : Int32) [u0, u1, u2, u3] G1 w_sf)] [(.int (fn12A (1 : Int32) [u0, u1, u2, u3] G1 w_sf))]) (fun _ k => XS.iloadN X5.here hx rfl (hb hby d5_16) rfl k) ?_
        refine gb (mkF m 19 #[vr a0, vi 1, vi (fn12A (1 : Int32) [u0, u1, u2, u3] G1 w_sf)] [(.int 32), (.int (fn12A (1 : Int32) [u0, u1, u2, u3] G1 w_sf))]) (fun _ k => XS.bipush X5.here hx rfl (hb hby d5_17) k) ?_
        refine gb (mkF m 22 #[vr a0, vi 1, vi (fn12A (1 : Int32) [u0, u1, u2, u3] G1 w_sf)] []) (fun _ k => XS.icmpNo X5.here hx rfl (hb hby d5_19) rfl (feq (fun q => hB6 (Or.inl q))).1 k) ?_
        refine gb (mkF m 23 #[vr a0, vi 1, vi (fn12A (1 : Int32) [u0, u1, u2, u3] G1 w_sf)] [(.int (fn12A (1 : Int32) [u0, u1, u2, u3] G1 w_sf))]) (fun _ k => XS.iloadN X5.here hx rfl (hb hby d5_22) rfl k) ?_
        refine gb (mkF m 25 #[vr a0, vi 1, vi (fn12A (1 : Int32) [u0, u1, u2, u3] G1 w_sf)] [(.int 9), (.int (fn12A (1 : Int32) [u0, u1, u2, u3] G1 w_sf))]) (fun _ k => XS.bipush X5.here hx rfl (hb hby d5_23) k) ?_
        refine gb (mkF m 28 #[vr a0, vi 1, vi (fn12A (1 : Int32) [u0, u1, u2, u3] G1 w_sf)] []) (fun _ k => XS.icmpNo X5.here hx rfl (hb hby d5_25) rfl (feq (fun q => hB6 (Or.inr q))).1 k) ?_
        refine gb (mkF m 29 #[vr a0, vi 1, vi (fn12A (1 : Int32) [u0, u1, u2, u3] G1 w_sf)] [(.int 0)]) (fun _ k => XS.iconst X5.here hx rfl (hb hby d5_28) k) ?_
        exact Gl.outN X5 hx hk (t := .boolean) Bd.returns (by simp) (hb hby d5_29) ⟨(congrArg (fun z => some (Value.int z)) (show nar .boolean (0 : Int32) = fn54A u0 u1 u2 u3 G1 w_sf by unfold fn54A; rw [if_pos hB3, if_neg hB6]; try rfl)), N5, e5⟩ (by decide) (by decide)
    rcases hB3 with q3 | q3
    · refine gb (mkF m 17 #[vr a0, vi 0, vi (fn12A (0 : Int32) [u0, u1, u2, u3] G1 w_sf)] [(.int (fn12A (0 : Int32) [u0, u1, u2, u3] G1 w_sf))]) (fun _ k => XS.iloadN X2.here hx rfl (hb hby d5_16) rfl k) ?_
      refine gb (mkF m 19 #[vr a0, vi 0, vi (fn12A (0 : Int32) [u0, u1, u2, u3] G1 w_sf)] [(.int 32), (.int (fn12A (0 : Int32) [u0, u1, u2, u3] G1 w_sf))]) (fun _ k => XS.bipush X2.here hx rfl (hb hby d5_17) k) ?_
      refine gb (mkF m 30 #[vr a0, vi 0, vi (fn12A (0 : Int32) [u0, u1, u2, u3] G1 w_sf)] []) (fun _ k => XS.icmpYes X2.here hx rfl (pc0 := 19) (pc' := 30) rfl (hb hby d5_19) rfl (teq q3).1 (by decide) (by decide) k) ?_
      exact J3 _ _ X2 e2 N2
    · refine gb (mkF m 17 #[vr a0, vi 0, vi (fn12A (0 : Int32) [u0, u1, u2, u3] G1 w_sf)] [(.int (fn12A (0 : Int32) [u0, u1, u2, u3] G1 w_sf))]) (fun _ k => XS.iloadN X2.here hx rfl (hb hby d5_16) rfl k) ?_
      refine gb (mkF m 19 #[vr a0, vi 0, vi (fn12A (0 : Int32) [u0, u1, u2, u3] G1 w_sf)] [(.int 32), (.int (fn12A (0 : Int32) [u0, u1, u2, u3] G1 w_sf))]) (fun _ k => XS.bipush X2.here hx rfl (hb hby d5_17) k) ?_
      refine gb (mkF m 22 #[vr a0, vi 0, vi (fn12A (0 : Int32) [u0, u1, u2, u3] G1 w_sf)] []) (fun _ k => XS.icmpNo X2.here hx rfl (hb hby d5_19) rfl (feq (fun z => absurd (q3.symm.trans z) (by decide))).1 k) ?_
      refine gb (mkF m 23 #[vr a0, vi 0, vi (fn12A (0 : Int32) [u0, u1, u2, u3] G1 w_sf)] [(.int (fn12A (0 : Int32) [u0, u1, u2, u3] G1 w_sf))]) (fun _ k => XS.iloadN X2.here hx rfl (hb hby d5_22) rfl k) ?_
      refine gb (mkF m 25 #[vr a0, vi 0, vi (fn12A (0 : Int32) [u0, u1, u2, u3] G1 w_sf)] [(.int 9), (.int (fn12A (0 : Int32) [u0, u1, u2, u3] G1 w_sf))]) (fun _ k => XS.bipush X2.here hx rfl (hb hby d5_23) k) ?_
      refine gb (mkF m 30 #[vr a0, vi 0, vi (fn12A (0 : Int32) [u0, u1, u2, u3] G1 w_sf)] []) (fun _ k => XS.icmpYes X2.here hx rfl (pc0 := 25) (pc' := 30) rfl (hb hby d5_25) rfl (teq q3).1 (by decide) (by decide) k) ?_
      exact J3 _ _ X2 e2 N2
  · refine gb (mkF m 17 #[vr a0, vi 0, vi (fn12A (0 : Int32) [u0, u1, u2, u3] G1 w_sf)] [(.int (fn12A (0 : Int32) [u0, u1, u2, u3] G1 w_sf))]) (fun _ k => XS.iloadN X2.here hx rfl (hb hby d5_16) rfl k) ?_
    refine gb (mkF m 19 #[vr a0, vi 0, vi (fn12A (0 : Int32) [u0, u1, u2, u3] G1 w_sf)] [(.int 32), (.int (fn12A (0 : Int32) [u0, u1, u2, u3] G1 w_sf))]) (fun _ k => XS.bipush X2.here hx rfl (hb hby d5_17) k) ?_
    refine gb (mkF m 22 #[vr a0, vi 0, vi (fn12A (0 : Int32) [u0, u1, u2, u3] G1 w_sf)] []) (fun _ k => XS.icmpNo X2.here hx rfl (hb hby d5_19) rfl (feq (fun q => hB3 (Or.inl q))).1 k) ?_
    refine gb (mkF m 23 #[vr a0, vi 0, vi (fn12A (0 : Int32) [u0, u1, u2, u3] G1 w_sf)] [(.int (fn12A (0 : Int32) [u0, u1, u2, u3] G1 w_sf))]) (fun _ k => XS.iloadN X2.here hx rfl (hb hby d5_22) rfl k) ?_
    refine gb (mkF m 25 #[vr a0, vi 0, vi (fn12A (0 : Int32) [u0, u1, u2, u3] G1 w_sf)] [(.int 9), (.int (fn12A (0 : Int32) [u0, u1, u2, u3] G1 w_sf))]) (fun _ k => XS.bipush X2.here hx rfl (hb hby d5_23) k) ?_
    refine gb (mkF m 28 #[vr a0, vi 0, vi (fn12A (0 : Int32) [u0, u1, u2, u3] G1 w_sf)] []) (fun _ k => XS.icmpNo X2.here hx rfl (hb hby d5_25) rfl (feq (fun q => hB3 (Or.inr q))).1 k) ?_
    refine gb (mkF m 29 #[vr a0, vi 0, vi (fn12A (0 : Int32) [u0, u1, u2, u3] G1 w_sf)] [(.int 0)]) (fun _ k => XS.iconst X2.here hx rfl (hb hby d5_28) k) ?_
    exact Gl.outN X2 hx hk (t := .boolean) Bd.returns (by simp) (hb hby d5_29) ⟨(congrArg (fun z => some (Value.int z)) (show nar .boolean (0 : Int32) = fn54A u0 u1 u2 u3 G1 w_sf by unfold fn54A; rw [if_neg hB3]; try rfl)), N2, e2⟩ (by decide) (by decide)
theorem ef54U (m : MethodId) (x0 : Addr) : entryFrame m #[(.ref x0)] 3 = mkF m 0 #[.val (.ref x0), .unset, .unset] [] := by first | (simp [entryFrame, mkF, argsToLocals, Value.category]; done) | rfl
def fn54U (u0 : Int32) (u1 : Int32) (u2 : Int32) (u3 : Int32) (u4 : Int32) (u5 : Int32) (u6 : Int32) (u7 : Int32) (G1 : Int32) (w_sf : Value) : Int32 := if (fn12U (0 : Int32) [u0, u1, u2, u3, u4, u5, u6, u7] G1 w_sf) = (32 : Int32) ∨ (fn12U (0 : Int32) [u0, u1, u2, u3, u4, u5, u6, u7] G1 w_sf) = (9 : Int32) then if (fn12U (1 : Int32) [u0, u1, u2, u3, u4, u5, u6, u7] G1 w_sf) = (32 : Int32) ∨ (fn12U (1 : Int32) [u0, u1, u2, u3, u4, u5, u6, u7] G1 w_sf) = (9 : Int32) then if (fn12U (2 : Int32) [u0, u1, u2, u3, u4, u5, u6, u7] G1 w_sf) = (32 : Int32) ∨ (fn12U (2 : Int32) [u0, u1, u2, u3, u4, u5, u6, u7] G1 w_sf) = (9 : Int32) then if (fn12U (3 : Int32) [u0, u1, u2, u3, u4, u5, u6, u7] G1 w_sf) = (32 : Int32) ∨ (fn12U (3 : Int32) [u0, u1, u2, u3, u4, u5, u6, u7] G1 w_sf) = (9 : Int32) then (1 : Int32) else (0 : Int32) else (0 : Int32) else (0 : Int32) else (0 : Int32)
def Q54U (Z : State) (a0 : Addr) (b : Addr) (kb : ClassId) (u0 : Int32) (u1 : Int32) (u2 : Int32) (u3 : Int32) (u4 : Int32) (u5 : Int32) (u6 : Int32) (u7 : Int32) (G1 : Int32) (w_sf : Value) (h0 : Heap) (n0 : Nat) (v : Option Value) (h : Heap) (L : List Loc) : Prop := v = some (.int (fn54U u0 u1 u2 u3 u4 u5 u6 u7 G1 w_sf)) ∧ Fr n0 L ∧ h = h0
theorem rm54U (l : Launch) (Z : State) (a0' : Array Value) (hw : ∀ d ∈ tables_1, d.before a0' Z = true) (ws : List Jvm.Cond) (a0 : Addr) (b : Addr) (kb : ClassId) (u0 : Int32) (u1 : Int32) (u2 : Int32) (u3 : Int32) (u4 : Int32) (u5 : Int32) (u6 : Int32) (u7 : Int32) (G1 : Int32) (w_sf : Value) (h0 : Heap) (n0 : Nat) (O : Old Z n0 h0) (W : Wd Z G1 w_sf) (pf0 : Exa Z h0 a0 "java/lang/String") (pf1 : Fld Z h0 a0 "java/lang/String" "value" "[B" (.ref b)) (pf2 : Fld Z h0 a0 "java/lang/String" "coder" "B" (.int 1)) (pf3 : Arv Z h0 b kb .byte (8 : Int32) [(.int u0), (.int u1), (.int u2), (.int u3), (.int u4), (.int u5), (.int u6), (.int u7)] (.int 0)) :
    MetFree l mq20 (head1 (Jvm.Cond.code mq20 prog_66_method_6_code 3 (some .boolean) :: ws) ({ frames := 5, cells := 0, slots := 0, locals := 66 } : Room)) (fun a U => a = #[(.ref a0)] ∧ Z.Warmed39 U.vm ∧ U.heap = h0) (fun _ _ _ _ _ => True) (fun _ U o U' => ∃ v L, o = .returned v ∧ Q54U Z a0 b kb u0 u1 u2 u3 u4 u5 u6 u7 G1 w_sf h0 n0 v U'.heap L ∧ FrameEnd U o U' L ({ frames := 5, cells := 0, slots := 0, locals := 66 } : Room).cells ({ frames := 5, cells := 0, slots := 0, locals := 66 } : Room).slots) := by
  refine MetFree.of_bodySF (plainFor_of_name pn4) hisR ?_
  intro p e s m args below meth c s₁ Bd hml0 hP hK
  obtain ⟨rfl, hZ, hh⟩ := hP
  have hx := Bd.exec
  have hby := Bd.bytes
  have hml : c.maxLocals = 3 := hml0
  have hown : s.vm.findClass "com/example/gatewarden/gatewarden/formats/PhysicalLines" = some m.cls := findClass_of_methodNamed Bd.named
  have hnm := (name_of_methodNamed Bd.named Bd.method).1
  have hk := Bd.notSynchronized
  have X0 : Stand p l e ({ frames := 5, cells := 0, slots := 0, locals := 66 } : Room) s m #[(.ref a0)] below meth c s₁ [] 0 0 := Stand.of_body Bd
  have hh2 := hh
  have e0 : s₁.heap = h0 := by rw [← hh, Bd.state]; rfl
  have N0 := Fr.nil n0
  show Gl p e below (Pos 0 0 (Q54U Z a0 b kb u0 u1 u2 u3 u4 u5 u6 u7 G1 w_sf h0 n0) s) s₁ _
  refine Gl.cast (ef54U m a0) ?_
  refine gb (mkF m 1 #[vr a0, .unset, .unset] [(.int 0)]) (fun _ k => XS.iconst X0.here hx rfl (hb hby d5_0) k) ?_
  refine gb (mkF m 2 #[vr a0, vi 0, .unset] []) (fun _ k => XS.istoreN X0.here hx rfl (hb hby d5_1) rfl (l' := #[vr a0, vi 0, .unset]) rfl k) ?_
  refine gb (mkF m 3 #[vr a0, vi 0, .unset] [(.int 0)]) (fun _ k => XS.iloadN X0.here hx rfl (hb hby d5_2) rfl k) ?_
  refine gb (mkF m 4 #[vr a0, vi 0, .unset] [(.ref a0), (.int 0)]) (fun _ k => XS.aloadN X0.here hx rfl (hb hby d5_3) rfl rfl k) ?_
  obtain ⟨cq1, kq1, q1a, q1b, q1c⟩ := isOf hZ e0 pf0
  obtain ⟨_, _, ⟨T1, L1, k1, n1⟩, -, X1, ⟨Lc1, hQ1, l1, y1, z1⟩, st1⟩ := X0.virtualBack hx (y := mq9) (z := mq9) hown (mvT hZ (hW hw 31 rfl)) (mvT hZ (hW hw 32 rfl)) (notFace_of_selects (args := #[]) (mvT hZ (hW hw 34 rfl))) (mvT hZ (hW hw 34 rfl)) (mvT hZ (hW hw 33 rfl)) (by decide) (backOf (W := 1) (rm6 l Z a0' hw [] a0 b (1 : Int32) kb [(.int u0), (.int u1), (.int u2), (.int u3), (.int u4), (.int u5), (.int u6), (.int u7)] (8 : Int32) G1 w_sf h0 n0 O W pf0 pf1 pf2 pf3) hZ (hW hw 35 rfl) (hW hw 8 rfl) (by decide) (by decide)) q1a q1c (g := (mkF m 4 #[vr a0, vi 0, .unset] [(.ref a0), (.int 0)])) rfl (by rw [hml]; rfl) (Steps.refl _) (argsL := []) (rest := [(.int 0)]) (lenOf pd274 rfl) rfl (Nat.le_of_eq rfl) (hb hby d5_4) (fun _ _ => ⟨rfl, e0, (by decide : 0 + 0 ≤ _), (by decide : 0 + 0 ≤ _)⟩)
  dsimp only [Pt.U, Pt.locs, Pt.cells, Pt.slots] at X1 l1 y1 z1 st1 hQ1
  subst l1 y1 z1
  obtain ⟨rfl, N1q, e1⟩ := hQ1
  have N1 := Fr.app N0 N1q
  refine gb (mkF m 7 #[vr a0, vi 0, .unset] [(.int ((8 : Int32) >>> (((1 : Int32).toInt8.toInt32) &&& 31))), (.int 0)]) (fun _ k => st1.trans k) ?_
  refine gb (mkF m 10 #[vr a0, vi 0, .unset] []) (fun _ k => XS.icmpNo X1.here hx rfl (hb hby d5_7) rfl (tlt (by decide : (0 : Int32) < ((8 : Int32) >>> (((1 : Int32).toInt8.toInt32) &&& 31)))).2.1 k) ?_
  refine gb (mkF m 11 #[vr a0, vi 0, .unset] [(.ref a0)]) (fun _ k => XS.aloadN X1.here hx rfl (hb hby d5_10) rfl rfl k) ?_
  refine gb (mkF m 12 #[vr a0, vi 0, .unset] [(.int 0), (.ref a0)]) (fun _ k => XS.iloadN X1.here hx rfl (hb hby d5_11) rfl k) ?_
  obtain ⟨cq2, kq2, q2a, q2b, q2c⟩ := isOf hZ e1 pf0
  obtain ⟨_, _, ⟨T2, L2, k2, n2⟩, -, X2, ⟨Lc2, hQ2, l2, y2, z2⟩, st2⟩ := X1.virtualBack hx (y := mq10) (z := mq10) hown (mvT hZ (hW hw 55 rfl)) (mvT hZ (hW hw 56 rfl)) (notFace_of_selects (args := #[]) (mvT hZ (hW hw 58 rfl))) (mvT hZ (hW hw 58 rfl)) (mvT hZ (hW hw 57 rfl)) (by decide) (backOf (W := 0) (rm12U l Z a0' hw [] a0 (0 : Int32) b kb (8 : Int32) [u0, u1, u2, u3, u4, u5, u6, u7] G1 w_sf h0 n0 O W pf0 pf1 pf2 pf3 (by decide) (by decide) (by decide) (by decide)) hZ (hW hw 59 rfl) (hW hw 8 rfl) (by decide) (by decide)) q2a q2c (g := (mkF m 12 #[vr a0, vi 0, .unset] [(.int 0), (.ref a0)])) rfl (by rw [hml]; rfl) (Steps.refl _) (argsL := [(.int 0)]) (rest := []) (lenOf pd289 rfl) rfl (Nat.le_of_eq rfl) (hb hby d5_12) (fun _ _ => ⟨rfl, e1, (by decide : 0 + 0 ≤ _), (by decide : 0 + 0 ≤ _)⟩)
  dsimp only [Pt.U, Pt.locs, Pt.cells, Pt.slots] at X2 l2 y2 z2 st2 hQ2
  subst l2 y2 z2
  obtain ⟨rfl, N2q, e2⟩ := hQ2
  have N2 := Fr.app N1 N2q
  refine gb (mkF m 15 #[vr a0, vi 0, .unset] [(.int (fn12U (0 : Int32) [u0, u1, u2, u3, u4, u5, u6, u7] G1 w_sf))]) (fun _ k => st2.trans k) ?_
  refine gb (mkF m 16 #[vr a0, vi 0, vi (fn12U (0 : Int32) [u0, u1, u2, u3, u4, u5, u6, u7] G1 w_sf)] []) (fun _ k => XS.istoreN X2.here hx rfl (hb hby d5_15) rfl (l' := #[vr a0, vi 0, vi (fn12U (0 : Int32) [u0, u1, u2, u3, u4, u5, u6, u7] G1 w_sf)]) rfl k) ?_
  by_cases hB3 : (fn12U (0 : Int32) [u0, u1, u2, u3, u4, u5, u6, u7] G1 w_sf) = (32 : Int32) ∨ (fn12U (0 : Int32) [u0, u1, u2, u3, u4, u5, u6, u7] G1 w_sf) = (9 : Int32)
  · have J3 : ∀ (T' : State) (lc : List Loc) (X' : Stand p l e ({ frames := 5, cells := 0, slots := 0, locals := 66 } : Room) s m #[(.ref a0)] below meth c T' lc 0 0) (eT : T'.heap = h0) (N' : Fr n0 lc), Gl p e below (Pos 0 0 (Q54U Z a0 b kb u0 u1 u2 u3 u4 u5 u6 u7 G1 w_sf h0 n0) s) T' (mkF m 30 #[vr a0, vi 0, vi (fn12U (0 : Int32) [u0, u1, u2, u3, u4, u5, u6, u7] G1 w_sf)] []) := by
      intro T' lc X' eT N'
      refine gb (mkF m 33 #[vr a0, vi 1, vi (fn12U (0 : Int32) [u0, u1, u2, u3, u4, u5, u6, u7] G1 w_sf)] []) (fun _ k => XS.iinc X'.here hx rfl (hb hby d5_30) rfl (l' := #[vr a0, vi 1, vi (fn12U (0 : Int32) [u0, u1, u2, u3, u4, u5, u6, u7] G1 w_sf)]) rfl k) ?_
      refine gb (mkF m 2 #[vr a0, vi 1, vi (fn12U (0 : Int32) [u0, u1, u2, u3, u4, u5, u6, u7] G1 w_sf)] []) (fun _ k => XS.goto X'.here hx rfl (pc0 := 33) (pc' := 2) rfl (hb hby d5_33) (by decide) (by decide) k) ?_
      refine gb (mkF m 3 #[vr a0, vi 1, vi (fn12U (0 : Int32) [u0, u1, u2, u3, u4, u5, u6, u7] G1 w_sf)] [(.int 1)]) (fun _ k => XS.iloadN X'.here hx rfl (hb hby d5_2) rfl k) ?_
      refine gb (mkF m 4 #[vr a0, vi 1, vi (fn12U (0 : Int32) [u0, u1, u2, u3, u4, u5, u6, u7] G1 w_sf)] [(.ref a0), (.int 1)]) (fun _ k => XS.aloadN X'.here hx rfl (hb hby d5_3) rfl rfl k) ?_
      obtain ⟨cq4, kq4, q4a, q4b, q4c⟩ := isOf hZ eT pf0
      obtain ⟨_, _, ⟨T4, L4, k4, n4⟩, -, X4, ⟨Lc4, hQ4, l4, y4, z4⟩, st4⟩ := X'.virtualBack hx (y := mq9) (z := mq9) hown (mvT hZ (hW hw 31 rfl)) (mvT hZ (hW hw 32 rfl)) (notFace_of_selects (args := #[]) (mvT hZ (hW hw 34 rfl))) (mvT hZ (hW hw 34 rfl)) (mvT hZ (hW hw 33 rfl)) (by decide) (backOf (W := 1) (rm6 l Z a0' hw [] a0 b (1 : Int32) kb [(.int u0), (.int u1), (.int u2), (.int u3), (.int u4), (.int u5), (.int u6), (.int u7)] (8 : Int32) G1 w_sf h0 n0 O W pf0 pf1 pf2 pf3) hZ (hW hw 35 rfl) (hW hw 8 rfl) (by decide) (by decide)) q4a q4c (g := (mkF m 4 #[vr a0, vi 1, vi (fn12U (0 : Int32) [u0, u1, u2, u3, u4, u5, u6, u7] G1 w_sf)] [(.ref a0), (.int 1)])) rfl (by rw [hml]; rfl) (Steps.refl _) (argsL := []) (rest := [(.int 1)]) (lenOf pd274 rfl) rfl (Nat.le_of_eq rfl) (hb hby d5_4) (fun _ _ => ⟨rfl, eT, (by decide : 0 + 0 ≤ _), (by decide : 0 + 0 ≤ _)⟩)
      dsimp only [Pt.U, Pt.locs, Pt.cells, Pt.slots] at X4 l4 y4 z4 st4 hQ4
      subst l4 y4 z4
      obtain ⟨rfl, N4q, e4⟩ := hQ4
      have N4 := Fr.app N' N4q
      refine gb (mkF m 7 #[vr a0, vi 1, vi (fn12U (0 : Int32) [u0, u1, u2, u3, u4, u5, u6, u7] G1 w_sf)] [(.int ((8 : Int32) >>> (((1 : Int32).toInt8.toInt32) &&& 31))), (.int 1)]) (fun _ k => st4.trans k) ?_
      refine gb (mkF m 10 #[vr a0, vi 1, vi (fn12U (0 : Int32) [u0, u1, u2, u3, u4, u5, u6, u7] G1 w_sf)] []) (fun _ k => XS.icmpNo X4.here hx rfl (hb hby d5_7) rfl (tlt (by decide : (1 : Int32) < ((8 : Int32) >>> (((1 : Int32).toInt8.toInt32) &&& 31)))).2.1 k) ?_
      refine gb (mkF m 11 #[vr a0, vi 1, vi (fn12U (0 : Int32) [u0, u1, u2, u3, u4, u5, u6, u7] G1 w_sf)] [(.ref a0)]) (fun _ k => XS.aloadN X4.here hx rfl (hb hby d5_10) rfl rfl k) ?_
      refine gb (mkF m 12 #[vr a0, vi 1, vi (fn12U (0 : Int32) [u0, u1, u2, u3, u4, u5, u6, u7] G1 w_sf)] [(.int 1), (.ref a0)]) (fun _ k => XS.iloadN X4.here hx rfl (hb hby d5_11) rfl k) ?_
      obtain ⟨cq5, kq5, q5a, q5b, q5c⟩ := isOf hZ e4 pf0
      obtain ⟨_, _, ⟨T5, L5, k5, n5⟩, -, X5, ⟨Lc5, hQ5, l5, y5, z5⟩, st5⟩ := X4.virtualBack hx (y := mq10) (z := mq10) hown (mvT hZ (hW hw 55 rfl)) (mvT hZ (hW hw 56 rfl)) (notFace_of_selects (args := #[]) (mvT hZ (hW hw 58 rfl))) (mvT hZ (hW hw 58 rfl)) (mvT hZ (hW hw 57 rfl)) (by decide) (backOf (W := 0) (rm12U l Z a0' hw [] a0 (1 : Int32) b kb (8 : Int32) [u0, u1, u2, u3, u4, u5, u6, u7] G1 w_sf h0 n0 O W pf0 pf1 pf2 pf3 (by decide) (by decide) (by decide) (by decide)) hZ (hW hw 59 rfl) (hW hw 8 rfl) (by decide) (by decide)) q5a q5c (g := (mkF m 12 #[vr a0, vi 1, vi (fn12U (0 : Int32) [u0, u1, u2, u3, u4, u5, u6, u7] G1 w_sf)] [(.int 1), (.ref a0)])) rfl (by rw [hml]; rfl) (Steps.refl _) (argsL := [(.int 1)]) (rest := []) (lenOf pd289 rfl) rfl (Nat.le_of_eq rfl) (hb hby d5_12) (fun _ _ => ⟨rfl, e4, (by decide : 0 + 0 ≤ _), (by decide : 0 + 0 ≤ _)⟩)
      dsimp only [Pt.U, Pt.locs, Pt.cells, Pt.slots] at X5 l5 y5 z5 st5 hQ5
      subst l5 y5 z5
      obtain ⟨rfl, N5q, e5⟩ := hQ5
      have N5 := Fr.app N4 N5q
      refine gb (mkF m 15 #[vr a0, vi 1, vi (fn12U (0 : Int32) [u0, u1, u2, u3, u4, u5, u6, u7] G1 w_sf)] [(.int (fn12U (1 : Int32) [u0, u1, u2, u3, u4, u5, u6, u7] G1 w_sf))]) (fun _ k => st5.trans k) ?_
      refine gb (mkF m 16 #[vr a0, vi 1, vi (fn12U (1 : Int32) [u0, u1, u2, u3, u4, u5, u6, u7] G1 w_sf)] []) (fun _ k => XS.istoreN X5.here hx rfl (hb hby d5_15) rfl (l' := #[vr a0, vi 1, vi (fn12U (1 : Int32) [u0, u1, u2, u3, u4, u5, u6, u7] G1 w_sf)]) rfl k) ?_
      by_cases hB6 : (fn12U (1 : Int32) [u0, u1, u2, u3, u4, u5, u6, u7] G1 w_sf) = (32 : Int32) ∨ (fn12U (1 : Int32) [u0, u1, u2, u3, u4, u5, u6, u7] G1 w_sf) = (9 : Int32)
      · have J6 : ∀ (T' : State) (lc : List Loc) (X' : Stand p l e ({ frames := 5, cells := 0, slots := 0, locals := 66 } : Room) s m #[(.ref a0)] below meth c T' lc 0 0) (eT : T'.heap = h0) (N' : Fr n0 lc), Gl p e below (Pos 0 0 (Q54U Z a0 b kb u0 u1 u2 u3 u4 u5 u6 u7 G1 w_sf h0 n0) s) T' (mkF m 30 #[vr a0, vi 1, vi (fn12U (1 : Int32) [u0, u1, u2, u3, u4, u5, u6, u7] G1 w_sf)] []) := by
          intro T' lc X' eT N'
          refine gb (mkF m 33 #[vr a0, vi 2, vi (fn12U (1 : Int32) [u0, u1, u2, u3, u4, u5, u6, u7] G1 w_sf)] []) (fun _ k => XS.iinc X'.here hx rfl (hb hby d5_30) rfl (l' := #[vr a0, vi 2, vi (fn12U (1 : Int32) [u0, u1, u2, u3, u4, u5, u6, u7] G1 w_sf)]) rfl k) ?_
          refine gb (mkF m 2 #[vr a0, vi 2, vi (fn12U (1 : Int32) [u0, u1, u2, u3, u4, u5, u6, u7] G1 w_sf)] []) (fun _ k => XS.goto X'.here hx rfl (pc0 := 33) (pc' := 2) rfl (hb hby d5_33) (by decide) (by decide) k) ?_
          refine gb (mkF m 3 #[vr a0, vi 2, vi (fn12U (1 : Int32) [u0, u1, u2, u3, u4, u5, u6, u7] G1 w_sf)] [(.int 2)]) (fun _ k => XS.iloadN X'.here hx rfl (hb hby d5_2) rfl k) ?_
          refine gb (mkF m 4 #[vr a0, vi 2, vi (fn12U (1 : Int32) [u0, u1, u2, u3, u4, u5, u6, u7] G1 w_sf)] [(.ref a0), (.int 2)]) (fun _ k => XS.aloadN X'.here hx rfl (hb hby d5_3) rfl rfl k) ?_
          obtain ⟨cq7, kq7, q7a, q7b, q7c⟩ := isOf hZ eT pf0
          obtain ⟨_, _, ⟨T7, L7, k7, n7⟩, -, X7, ⟨Lc7, hQ7, l7, y7, z7⟩, st7⟩ := X'.virtualBack hx (y := mq9) (z := mq9) hown (mvT hZ (hW hw 31 rfl)) (mvT hZ (hW hw 32 rfl)) (notFace_of_selects (args := #[]) (mvT hZ (hW hw 34 rfl))) (mvT hZ (hW hw 34 rfl)) (mvT hZ (hW hw 33 rfl)) (by decide) (backOf (W := 1) (rm6 l Z a0' hw [] a0 b (1 : Int32) kb [(.int u0), (.int u1), (.int u2), (.int u3), (.int u4), (.int u5), (.int u6), (.int u7)] (8 : Int32) G1 w_sf h0 n0 O W pf0 pf1 pf2 pf3) hZ (hW hw 35 rfl) (hW hw 8 rfl) (by decide) (by decide)) q7a q7c (g := (mkF m 4 #[vr a0, vi 2, vi (fn12U (1 : Int32) [u0, u1, u2, u3, u4, u5, u6, u7] G1 w_sf)] [(.ref a0), (.int 2)])) rfl (by rw [hml]; rfl) (Steps.refl _) (argsL := []) (rest := [(.int 2)]) (lenOf pd274 rfl) rfl (Nat.le_of_eq rfl) (hb hby d5_4) (fun _ _ => ⟨rfl, eT, (by decide : 0 + 0 ≤ _), (by decide : 0 + 0 ≤ _)⟩)
          dsimp only [Pt.U, Pt.locs, Pt.cells, Pt.slots] at X7 l7 y7 z7 st7 hQ7
          subst l7 y7 z7
          obtain ⟨rfl, N7q, e7⟩ := hQ7
          have N7 := Fr.app N' N7q
          refine gb (mkF m 7 #[vr a0, vi 2, vi (fn12U (1 : Int32) [u0, u1, u2, u3, u4, u5, u6, u7] G1 w_sf)] [(.int ((8 : Int32) >>> (((1 : Int32).toInt8.toInt32) &&& 31))), (.int 2)]) (fun _ k => st7.trans k) ?_
          refine gb (mkF m 10 #[vr a0, vi 2, vi (fn12U (1 : Int32) [u0, u1, u2, u3, u4, u5, u6, u7] G1 w_sf)] []) (fun _ k => XS.icmpNo X7.here hx rfl (hb hby d5_7) rfl (tlt (by decide : (2 : Int32) < ((8 : Int32) >>> (((1 : Int32).toInt8.toInt32) &&& 31)))).2.1 k) ?_
          refine gb (mkF m 11 #[vr a0, vi 2, vi (fn12U (1 : Int32) [u0, u1, u2, u3, u4, u5, u6, u7] G1 w_sf)] [(.ref a0)]) (fun _ k => XS.aloadN X7.here hx rfl (hb hby d5_10) rfl rfl k) ?_
          refine gb (mkF m 12 #[vr a0, vi 2, vi (fn12U (1 : Int32) [u0, u1, u2, u3, u4, u5, u6, u7] G1 w_sf)] [(.int 2), (.ref a0)]) (fun _ k => XS.iloadN X7.here hx rfl (hb hby d5_11) rfl k) ?_
          obtain ⟨cq8, kq8, q8a, q8b, q8c⟩ := isOf hZ e7 pf0
          obtain ⟨_, _, ⟨T8, L8, k8, n8⟩, -, X8, ⟨Lc8, hQ8, l8, y8, z8⟩, st8⟩ := X7.virtualBack hx (y := mq10) (z := mq10) hown (mvT hZ (hW hw 55 rfl)) (mvT hZ (hW hw 56 rfl)) (notFace_of_selects (args := #[]) (mvT hZ (hW hw 58 rfl))) (mvT hZ (hW hw 58 rfl)) (mvT hZ (hW hw 57 rfl)) (by decide) (backOf (W := 0) (rm12U l Z a0' hw [] a0 (2 : Int32) b kb (8 : Int32) [u0, u1, u2, u3, u4, u5, u6, u7] G1 w_sf h0 n0 O W pf0 pf1 pf2 pf3 (by decide) (by decide) (by decide) (by decide)) hZ (hW hw 59 rfl) (hW hw 8 rfl) (by decide) (by decide)) q8a q8c (g := (mkF m 12 #[vr a0, vi 2, vi (fn12U (1 : Int32) [u0, u1, u2, u3, u4, u5, u6, u7] G1 w_sf)] [(.int 2), (.ref a0)])) rfl (by rw [hml]; rfl) (Steps.refl _) (argsL := [(.int 2)]) (rest := []) (lenOf pd289 rfl) rfl (Nat.le_of_eq rfl) (hb hby d5_12) (fun _ _ => ⟨rfl, e7, (by decide : 0 + 0 ≤ _), (by decide : 0 + 0 ≤ _)⟩)
          dsimp only [Pt.U, Pt.locs, Pt.cells, Pt.slots] at X8 l8 y8 z8 st8 hQ8
          subst l8 y8 z8
          obtain ⟨rfl, N8q, e8⟩ := hQ8
          have N8 := Fr.app N7 N8q
          refine gb (mkF m 15 #[vr a0, vi 2, vi (fn12U (1 : Int32) [u0, u1, u2, u3, u4, u5, u6, u7] G1 w_sf)] [(.int (fn12U (2 : Int32) [u0, u1, u2, u3, u4, u5, u6, u7] G1 w_sf))]) (fun _ k => st8.trans k) ?_
          refine gb (mkF m 16 #[vr a0, vi 2, vi (fn12U (2 : Int32) [u0, u1, u2, u3, u4, u5, u6, u7] G1 w_sf)] []) (fun _ k => XS.istoreN X8.here hx rfl (hb hby d5_15) rfl (l' := #[vr a0, vi 2, vi (fn12U (2 : Int32) [u0, u1, u2, u3, u4, u5, u6, u7] G1 w_sf)]) rfl k) ?_
          by_cases hB9 : (fn12U (2 : Int32) [u0, u1, u2, u3, u4, u5, u6, u7] G1 w_sf) = (32 : Int32) ∨ (fn12U (2 : Int32) [u0, u1, u2, u3, u4, u5, u6, u7] G1 w_sf) = (9 : Int32)
          · have J9 : ∀ (T' : State) (lc : List Loc) (X' : Stand p l e ({ frames := 5, cells := 0, slots := 0, locals := 66 } : Room) s m #[(.ref a0)] below meth c T' lc 0 0) (eT : T'.heap = h0) (N' : Fr n0 lc), Gl p e below (Pos 0 0 (Q54U Z a0 b kb u0 u1 u2 u3 u4 u5 u6 u7 G1 w_sf h0 n0) s) T' (mkF m 30 #[vr a0, vi 2, vi (fn12U (2 : Int32) [u0, u1, u2, u3, u4, u5, u6, u7] G1 w_sf)] []) := by
              intro T' lc X' eT N'
              refine gb (mkF m 33 #[vr a0, vi 3, vi (fn12U (2 : Int32) [u0, u1, u2, u3, u4, u5, u6, u7] G1 w_sf)] []) (fun _ k => XS.iinc X'.here hx rfl (hb hby d5_30) rfl (l' := #[vr a0, vi 3, vi (fn12U (2 : Int32) [u0, u1, u2, u3, u4, u5, u6, u7] G1 w_sf)]) rfl k) ?_
              refine gb (mkF m 2 #[vr a0, vi 3, vi (fn12U (2 : Int32) [u0, u1, u2, u3, u4, u5, u6, u7] G1 w_sf)] []) (fun _ k => XS.goto X'.here hx rfl (pc0 := 33) (pc' := 2) rfl (hb hby d5_33) (by decide) (by decide) k) ?_
              refine gb (mkF m 3 #[vr a0, vi 3, vi (fn12U (2 : Int32) [u0, u1, u2, u3, u4, u5, u6, u7] G1 w_sf)] [(.int 3)]) (fun _ k => XS.iloadN X'.here hx rfl (hb hby d5_2) rfl k) ?_
              refine gb (mkF m 4 #[vr a0, vi 3, vi (fn12U (2 : Int32) [u0, u1, u2, u3, u4, u5, u6, u7] G1 w_sf)] [(.ref a0), (.int 3)]) (fun _ k => XS.aloadN X'.here hx rfl (hb hby d5_3) rfl rfl k) ?_
              obtain ⟨cq10, kq10, q10a, q10b, q10c⟩ := isOf hZ eT pf0
              obtain ⟨_, _, ⟨T10, L10, k10, n10⟩, -, X10, ⟨Lc10, hQ10, l10, y10, z10⟩, st10⟩ := X'.virtualBack hx (y := mq9) (z := mq9) hown (mvT hZ (hW hw 31 rfl)) (mvT hZ (hW hw 32 rfl)) (notFace_of_selects (args := #[]) (mvT hZ (hW hw 34 rfl))) (mvT hZ (hW hw 34 rfl)) (mvT hZ (hW hw 33 rfl)) (by decide) (backOf (W := 1) (rm6 l Z a0' hw [] a0 b (1 : Int32) kb [(.int u0), (.int u1), (.int u2), (.int u3), (.int u4), (.int u5), (.int u6), (.int u7)] (8 : Int32) G1 w_sf h0 n0 O W pf0 pf1 pf2 pf3) hZ (hW hw 35 rfl) (hW hw 8 rfl) (by decide) (by decide)) q10a q10c (g := (mkF m 4 #[vr a0, vi 3, vi (fn12U (2 : Int32) [u0, u1, u2, u3, u4, u5, u6, u7] G1 w_sf)] [(.ref a0), (.int 3)])) rfl (by rw [hml]; rfl) (Steps.refl _) (argsL := []) (rest := [(.int 3)]) (lenOf pd274 rfl) rfl (Nat.le_of_eq rfl) (hb hby d5_4) (fun _ _ => ⟨rfl, eT, (by decide : 0 + 0 ≤ _), (by decide : 0 + 0 ≤ _)⟩)
              dsimp only [Pt.U, Pt.locs, Pt.cells, Pt.slots] at X10 l10 y10 z10 st10 hQ10
              subst l10 y10 z10
              obtain ⟨rfl, N10q, e10⟩ := hQ10
              have N10 := Fr.app N' N10q
              refine gb (mkF m 7 #[vr a0, vi 3, vi (fn12U (2 : Int32) [u0, u1, u2, u3, u4, u5, u6, u7] G1 w_sf)] [(.int ((8 : Int32) >>> (((1 : Int32).toInt8.toInt32) &&& 31))), (.int 3)]) (fun _ k => st10.trans k) ?_
              refine gb (mkF m 10 #[vr a0, vi 3, vi (fn12U (2 : Int32) [u0, u1, u2, u3, u4, u5, u6, u7] G1 w_sf)] []) (fun _ k => XS.icmpNo X10.here hx rfl (hb hby d5_7) rfl (tlt (by decide : (3 : Int32) < ((8 : Int32) >>> (((1 : Int32).toInt8.toInt32) &&& 31)))).2.1 k) ?_
              refine gb (mkF m 11 #[vr a0, vi 3, vi (fn12U (2 : Int32) [u0, u1, u2, u3, u4, u5, u6, u7] G1 w_sf)] [(.ref a0)]) (fun _ k => XS.aloadN X10.here hx rfl (hb hby d5_10) rfl rfl k) ?_
              refine gb (mkF m 12 #[vr a0, vi 3, vi (fn12U (2 : Int32) [u0, u1, u2, u3, u4, u5, u6, u7] G1 w_sf)] [(.int 3), (.ref a0)]) (fun _ k => XS.iloadN X10.here hx rfl (hb hby d5_11) rfl k) ?_
              obtain ⟨cq11, kq11, q11a, q11b, q11c⟩ := isOf hZ e10 pf0
              obtain ⟨_, _, ⟨T11, L11, k11, n11⟩, -, X11, ⟨Lc11, hQ11, l11, y11, z11⟩, st11⟩ := X10.virtualBack hx (y := mq10) (z := mq10) hown (mvT hZ (hW hw 55 rfl)) (mvT hZ (hW hw 56 rfl)) (notFace_of_selects (args := #[]) (mvT hZ (hW hw 58 rfl))) (mvT hZ (hW hw 58 rfl)) (mvT hZ (hW hw 57 rfl)) (by decide) (backOf (W := 0) (rm12U l Z a0' hw [] a0 (3 : Int32) b kb (8 : Int32) [u0, u1, u2, u3, u4, u5, u6, u7] G1 w_sf h0 n0 O W pf0 pf1 pf2 pf3 (by decide) (by decide) (by decide) (by decide)) hZ (hW hw 59 rfl) (hW hw 8 rfl) (by decide) (by decide)) q11a q11c (g := (mkF m 12 #[vr a0, vi 3, vi (fn12U (2 : Int32) [u0, u1, u2, u3, u4, u5, u6, u7] G1 w_sf)] [(.int 3), (.ref a0)])) rfl (by rw [hml]; rfl) (Steps.refl _) (argsL := [(.int 3)]) (rest := []) (lenOf pd289 rfl) rfl (Nat.le_of_eq rfl) (hb hby d5_12) (fun _ _ => ⟨rfl, e10, (by decide : 0 + 0 ≤ _), (by decide : 0 + 0 ≤ _)⟩)
              dsimp only [Pt.U, Pt.locs, Pt.cells, Pt.slots] at X11 l11 y11 z11 st11 hQ11
              subst l11 y11 z11
              obtain ⟨rfl, N11q, e11⟩ := hQ11
              have N11 := Fr.app N10 N11q
              refine gb (mkF m 15 #[vr a0, vi 3, vi (fn12U (2 : Int32) [u0, u1, u2, u3, u4, u5, u6, u7] G1 w_sf)] [(.int (fn12U (3 : Int32) [u0, u1, u2, u3, u4, u5, u6, u7] G1 w_sf))]) (fun _ k => st11.trans k) ?_
              refine gb (mkF m 16 #[vr a0, vi 3, vi (fn12U (3 : Int32) [u0, u1, u2, u3, u4, u5, u6, u7] G1 w_sf)] []) (fun _ k => XS.istoreN X11.here hx rfl (hb hby d5_15) rfl (l' := #[vr a0, vi 3, vi (fn12U (3 : Int32) [u0, u1, u2, u3, u4, u5, u6, u7] G1 w_sf)]) rfl k) ?_
              by_cases hB12 : (fn12U (3 : Int32) [u0, u1, u2, u3, u4, u5, u6, u7] G1 w_sf) = (32 : Int32) ∨ (fn12U (3 : Int32) [u0, u1, u2, u3, u4, u5, u6, u7] G1 w_sf) = (9 : Int32)
              · have J12 : ∀ (T' : State) (lc : List Loc) (X' : Stand p l e ({ frames := 5, cells := 0, slots := 0, locals := 66 } : Room) s m #[(.ref a0)] below meth c T' lc 0 0) (eT : T'.heap = h0) (N' : Fr n0 lc), Gl p e below (Pos 0 0 (Q54U Z a0 b kb u0 u1 u2 u3 u4 u5 u6 u7 G1 w_sf h0 n0) s) T' (mkF m 30 #[vr a0, vi 3, vi (fn12U (3 : Int32) [u0, u1, u2, u3, u4, u5, u6, u7] G1 w_sf)] []) := by
                  intro T' lc X' eT N'
                  refine gb (mkF m 33 #[vr a0, vi 4, vi (fn12U (3 : Int32) [u0, u1, u2, u3, u4, u5, u6, u7] G1 w_sf)] []) (fun _ k => XS.iinc X'.here hx rfl (hb hby d5_30) rfl (l' := #[vr a0, vi 4, vi (fn12U (3 : Int32) [u0, u1, u2, u3, u4, u5, u6, u7] G1 w_sf)]) rfl k) ?_
                  refine gb (mkF m 2 #[vr a0, vi 4, vi (fn12U (3 : Int32) [u0, u1, u2, u3, u4, u5, u6, u7] G1 w_sf)] []) (fun _ k => XS.goto X'.here hx rfl (pc0 := 33) (pc' := 2) rfl (hb hby d5_33) (by decide) (by decide) k) ?_
                  refine gb (mkF m 3 #[vr a0, vi 4, vi (fn12U (3 : Int32) [u0, u1, u2, u3, u4, u5, u6, u7] G1 w_sf)] [(.int 4)]) (fun _ k => XS.iloadN X'.here hx rfl (hb hby d5_2) rfl k) ?_
                  refine gb (mkF m 4 #[vr a0, vi 4, vi (fn12U (3 : Int32) [u0, u1, u2, u3, u4, u5, u6, u7] G1 w_sf)] [(.ref a0), (.int 4)]) (fun _ k => XS.aloadN X'.here hx rfl (hb hby d5_3) rfl rfl k) ?_
                  obtain ⟨cq13, kq13, q13a, q13b, q13c⟩ := isOf hZ eT pf0
                  obtain ⟨_, _, ⟨T13, L13, k13, n13⟩, -, X13, ⟨Lc13, hQ13, l13, y13, z13⟩, st13⟩ := X'.virtualBack hx (y := mq9) (z := mq9) hown (mvT hZ (hW hw 31 rfl)) (mvT hZ (hW hw 32 rfl)) (notFace_of_selects (args := #[]) (mvT hZ (hW hw 34 rfl))) (mvT hZ (hW hw 34 rfl)) (mvT hZ (hW hw 33 rfl)) (by decide) (backOf (W := 1) (rm6 l Z a0' hw [] a0 b (1 : Int32) kb [(.int u0), (.int u1), (.int u2), (.int u3), (.int u4), (.int u5), (.int u6), (.int u7)] (8 : Int32) G1 w_sf h0 n0 O W pf0 pf1 pf2 pf3) hZ (hW hw 35 rfl) (hW hw 8 rfl) (by decide) (by decide)) q13a q13c (g := (mkF m 4 #[vr a0, vi 4, vi (fn12U (3 : Int32) [u0, u1, u2, u3, u4, u5, u6, u7] G1 w_sf)] [(.ref a0), (.int 4)])) rfl (by rw [hml]; rfl) (Steps.refl _) (argsL := []) (rest := [(.int 4)]) (lenOf pd274 rfl) rfl (Nat.le_of_eq rfl) (hb hby d5_4) (fun _ _ => ⟨rfl, eT, (by decide : 0 + 0 ≤ _), (by decide : 0 + 0 ≤ _)⟩)
                  dsimp only [Pt.U, Pt.locs, Pt.cells, Pt.slots] at X13 l13 y13 z13 st13 hQ13
                  subst l13 y13 z13
                  obtain ⟨rfl, N13q, e13⟩ := hQ13
                  have N13 := Fr.app N' N13q
                  refine gb (mkF m 7 #[vr a0, vi 4, vi (fn12U (3 : Int32) [u0, u1, u2, u3, u4, u5, u6, u7] G1 w_sf)] [(.int ((8 : Int32) >>> (((1 : Int32).toInt8.toInt32) &&& 31))), (.int 4)]) (fun _ k => st13.trans k) ?_
                  refine gb (mkF m 36 #[vr a0, vi 4, vi (fn12U (3 : Int32) [u0, u1, u2, u3, u4, u5, u6, u7] G1 w_sf)] []) (fun _ k => XS.icmpYes X13.here hx rfl (pc0 := 7) (pc' := 36) rfl (hb hby d5_7) rfl (flt (by decide : ¬ ((4 : Int32) < ((8 : Int32) >>> (((1 : Int32).toInt8.toInt32) &&& 31))))).2.1 (by decide) (by decide) k) ?_
                  refine gb (mkF m 37 #[vr a0, vi 4, vi (fn12U (3 : Int32) [u0, u1, u2, u3, u4, u5, u6, u7] G1 w_sf)] [(.int 1)]) (fun _ k => XS.iconst X13.here hx rfl (hb hby d5_36) k) ?_
                  exact Gl.outN X13 hx hk (t := .boolean) Bd.returns (by simp) (hb hby d5_37) ⟨(congrArg (fun z => some (Value.int z)) (show nar .boolean (1 : Int32) = fn54U u0 u1 u2 u3 u4 u5 u6 u7 G1 w_sf by unfold fn54U; rw [if_pos hB3, if_pos hB6, if_pos hB9, if_pos hB12]; try rfl)), N13, e13⟩ (by decide) (by decide)
                rcases hB12 with q12 | q12
                · refine gb (mkF m 17 #[vr a0, vi 3, vi (fn12U (3 : Int32) [u0, u1, u2, u3, u4, u5, u6, u7] G1 w_sf)] [(.int (fn12U (3 : Int32) [u0, u1, u2, u3, u4, u5, u6, u7] G1 w_sf))]) (fun _ k => XS.iloadN X11.here hx rfl (hb hby d5_16) rfl k) ?_
                  refine gb (mkF m 19 #[vr a0, vi 3, vi (fn12U (3 : Int32) [u0, u1, u2, u3, u4, u5, u6, u7] G1 w_sf)] [(.int 32), (.int (fn12U (3 : Int32) [u0, u1, u2, u3, u4, u5, u6, u7] G1 w_sf))]) (fun _ k => XS.bipush X11.here hx rfl (hb hby d5_17) k) ?_
                  refine gb (mkF m 30 #[vr a0, vi 3, vi (fn12U (3 : Int32) [u0, u1, u2, u3, u4, u5, u6, u7] G1 w_sf)] []) (fun _ k => XS.icmpYes X11.here hx rfl (pc0 := 19) (pc' := 30) rfl (hb hby d5_19) rfl (teq q12).1 (by decide) (by decide) k) ?_
                  exact J12 _ _ X11 e11 N11
                · refine gb (mkF m 17 #[vr a0, vi 3, vi (fn12U (3 : Int32) [u0, u1, u2, u3, u4, u5, u6, u7] G1 w_sf)] [(.int (fn12U (3 : Int32) [u0, u1, u2, u3, u4, u5, u6, u7] G1 w_sf))]) (fun _ k => XS.iloadN X11.here hx rfl (hb hby d5_16) rfl k) ?_
                  refine gb (mkF m 19 #[vr a0, vi 3, vi (fn12U (3 : Int32) [u0, u1, u2, u3, u4, u5, u6, u7] G1 w_sf)] [(.int 32), (.int (fn12U (3 : Int32) [u0, u1, u2, u3, u4, u5, u6, u7] G1 w_sf))]) (fun _ k => XS.bipush X11.here hx rfl (hb hby d5_17) k) ?_
                  refine gb (mkF m 22 #[vr a0, vi 3, vi (fn12U (3 : Int32) [u0, u1, u2, u3, u4, u5, u6, u7] G1 w_sf)] []) (fun _ k => XS.icmpNo X11.here hx rfl (hb hby d5_19) rfl (feq (fun z => absurd (q12.symm.trans z) (by decide))).1 k) ?_
                  refine gb (mkF m 23 #[vr a0, vi 3, vi (fn12U (3 : Int32) [u0, u1, u2, u3, u4, u5, u6, u7] G1 w_sf)] [(.int (fn12U (3 : Int32) [u0, u1, u2, u3, u4, u5, u6, u7] G1 w_sf))]) (fun _ k => XS.iloadN X11.here hx rfl (hb hby d5_22) rfl k) ?_
                  refine gb (mkF m 25 #[vr a0, vi 3, vi (fn12U (3 : Int32) [u0, u1, u2, u3, u4, u5, u6, u7] G1 w_sf)] [(.int 9), (.int (fn12U (3 : Int32) [u0, u1, u2, u3, u4, u5, u6, u7] G1 w_sf))]) (fun _ k => XS.bipush X11.here hx rfl (hb hby d5_23) k) ?_
                  refine gb (mkF m 30 #[vr a0, vi 3, vi (fn12U (3 : Int32) [u0, u1, u2, u3, u4, u5, u6, u7] G1 w_sf)] []) (fun _ k => XS.icmpYes X11.here hx rfl (pc0 := 25) (pc' := 30) rfl (hb hby d5_25) rfl (teq q12).1 (by decide) (by decide) k) ?_
                  exact J12 _ _ X11 e11 N11
              · refine gb (mkF m 17 #[vr a0, vi 3, vi (fn12U (3 : Int32) [u0, u1, u2, u3, u4, u5, u6, u7] G1 w_sf)] [(.int (fn12U (3 : Int32) [u0, u1, u2, u3, u4, u5, u6, u7] G1 w_sf))]) (fun _ k => XS.iloadN X11.here hx rfl (hb hby d5_16) rfl k) ?_
                refine gb (mkF m 19 #[vr a0, vi 3, vi (fn12U (3 : Int32) [u0, u1, u2, u3, u4, u5, u6, u7] G1 w_sf)] [(.int 32), (.int (fn12U (3 : Int32) [u0, u1, u2, u3, u4, u5, u6, u7] G1 w_sf))]) (fun _ k => XS.bipush X11.here hx rfl (hb hby d5_17) k) ?_
                refine gb (mkF m 22 #[vr a0, vi 3, vi (fn12U (3 : Int32) [u0, u1, u2, u3, u4, u5, u6, u7] G1 w_sf)] []) (fun _ k => XS.icmpNo X11.here hx rfl (hb hby d5_19) rfl (feq (fun q => hB12 (Or.inl q))).1 k) ?_
                refine gb (mkF m 23 #[vr a0, vi 3, vi (fn12U (3 : Int32) [u0, u1, u2, u3, u4, u5, u6, u7] G1 w_sf)] [(.int (fn12U (3 : Int32) [u0, u1, u2, u3, u4, u5, u6, u7] G1 w_sf))]) (fun _ k => XS.iloadN X11.here hx rfl (hb hby d5_22) rfl k) ?_
                refine gb (mkF m 25 #[vr a0, vi 3, vi (fn12U (3 : Int32) [u0, u1, u2, u3, u4, u5, u6, u7] G1 w_sf)] [(.int 9), (.int (fn12U (3 : Int32) [u0, u1, u2, u3, u4, u5, u6, u7] G1 w_sf))]) (fun _ k => XS.bipush X11.here hx rfl (hb hby d5_23) k) ?_
                refine gb (mkF m 28 #[vr a0, vi 3, vi (fn12U (3 : Int32) [u0, u1, u2, u3, u4, u5, u6, u7] G1 w_sf)] []) (fun _ k => XS.icmpNo X11.here hx rfl (hb hby d5_25) rfl (feq (fun q => hB12 (Or.inr q))).1 k) ?_
                refine gb (mkF m 29 #[vr a0, vi 3, vi (fn12U (3 : Int32) [u0, u1, u2, u3, u4, u5, u6, u7] G1 w_sf)] [(.int 0)]) (fun _ k => XS.iconst X11.here hx rfl (hb hby d5_28) k) ?_
                exact Gl.outN X11 hx hk (t := .boolean) Bd.returns (by simp) (hb hby d5_29) ⟨(congrArg (fun z => some (Value.int z)) (show nar .boolean (0 : Int32) = fn54U u0 u1 u2 u3 u4 u5 u6 u7 G1 w_sf by unfold fn54U; rw [if_pos hB3, if_pos hB6, if_pos hB9, if_neg hB12]; try rfl)), N11, e11⟩ (by decide) (by decide)
            rcases hB9 with q9 | q9
            · refine gb (mkF m 17 #[vr a0, vi 2, vi (fn12U (2 : Int32) [u0, u1, u2, u3, u4, u5, u6, u7] G1 w_sf)] [(.int (fn12U (2 : Int32) [u0, u1, u2, u3, u4, u5, u6, u7] G1 w_sf))]) (fun _ k => XS.iloadN X8.here hx rfl (hb hby d5_16) rfl k) ?_
              refine gb (mkF m 19 #[vr a0, vi 2, vi (fn12U (2 : Int32) [u0, u1, u2, u3, u4, u5, u6, u7] G1 w_sf)] [(.int 32), (.int (fn12U (2 : Int32) [u0, u1, u2, u3, u4, u5, u6, u7] G1 w_sf))]) (fun _ k => XS.bipush X8.here hx rfl (hb hby d5_17) k) ?_
              refine gb (mkF m 30 #[vr a0, vi 2, vi (fn12U (2 : Int32) [u0, u1, u2, u3, u4, u5, u6, u7] G1 w_sf)] []) (fun _ k => XS.icmpYes X8.here hx rfl (pc0 := 19) (pc' := 30) rfl (hb hby d5_19) rfl (teq q9).1 (by decide) (by decide) k) ?_
              exact J9 _ _ X8 e8 N8
            · refine gb (mkF m 17 #[vr a0, vi 2, vi (fn12U (2 : Int32) [u0, u1, u2, u3, u4, u5, u6, u7] G1 w_sf)] [(.int (fn12U (2 : Int32) [u0, u1, u2, u3, u4, u5, u6, u7] G1 w_sf))]) (fun _ k => XS.iloadN X8.here hx rfl (hb hby d5_16) rfl k) ?_
              refine gb (mkF m 19 #[vr a0, vi 2, vi (fn12U (2 : Int32) [u0, u1, u2, u3, u4, u5, u6, u7] G1 w_sf)] [(.int 32), (.int (fn12U (2 : Int32) [u0, u1, u2, u3, u4, u5, u6, u7] G1 w_sf))]) (fun _ k => XS.bipush X8.here hx rfl (hb hby d5_17) k) ?_
              refine gb (mkF m 22 #[vr a0, vi 2, vi (fn12U (2 : Int32) [u0, u1, u2, u3, u4, u5, u6, u7] G1 w_sf)] []) (fun _ k => XS.icmpNo X8.here hx rfl (hb hby d5_19) rfl (feq (fun z => absurd (q9.symm.trans z) (by decide))).1 k) ?_
              refine gb (mkF m 23 #[vr a0, vi 2, vi (fn12U (2 : Int32) [u0, u1, u2, u3, u4, u5, u6, u7] G1 w_sf)] [(.int (fn12U (2 : Int32) [u0, u1, u2, u3, u4, u5, u6, u7] G1 w_sf))]) (fun _ k => XS.iloadN X8.here hx rfl (hb hby d5_22) rfl k) ?_
              refine gb (mkF m 25 #[vr a0, vi 2, vi (fn12U (2 : Int32) [u0, u1, u2, u3, u4, u5, u6, u7] G1 w_sf)] [(.int 9), (.int (fn12U (2 : Int32) [u0, u1, u2, u3, u4, u5, u6, u7] G1 w_sf))]) (fun _ k => XS.bipush X8.here hx rfl (hb hby d5_23) k) ?_
              refine gb (mkF m 30 #[vr a0, vi 2, vi (fn12U (2 : Int32) [u0, u1, u2, u3, u4, u5, u6, u7] G1 w_sf)] []) (fun _ k => XS.icmpYes X8.here hx rfl (pc0 := 25) (pc' := 30) rfl (hb hby d5_25) rfl (teq q9).1 (by decide) (by decide) k) ?_
              exact J9 _ _ X8 e8 N8
          · refine gb (mkF m 17 #[vr a0, vi 2, vi (fn12U (2 : Int32) [u0, u1, u2, u3, u4, u5, u6, u7] G1 w_sf)] [(.int (fn12U (2 : Int32) [u0, u1, u2, u3, u4, u5, u6, u7] G1 w_sf))]) (fun _ k => XS.iloadN X8.here hx rfl (hb hby d5_16) rfl k) ?_
            refine gb (mkF m 19 #[vr a0, vi 2, vi (fn12U (2 : Int32) [u0, u1, u2, u3, u4, u5, u6, u7] G1 w_sf)] [(.int 32), (.int (fn12U (2 : Int32) [u0, u1, u2, u3, u4, u5, u6, u7] G1 w_sf))]) (fun _ k => XS.bipush X8.here hx rfl (hb hby d5_17) k) ?_
            refine gb (mkF m 22 #[vr a0, vi 2, vi (fn12U (2 : Int32) [u0, u1, u2, u3, u4, u5, u6, u7] G1 w_sf)] []) (fun _ k => XS.icmpNo X8.here hx rfl (hb hby d5_19) rfl (feq (fun q => hB9 (Or.inl q))).1 k) ?_
            refine gb (mkF m 23 #[vr a0, vi 2, vi (fn12U (2 : Int32) [u0, u1, u2, u3, u4, u5, u6, u7] G1 w_sf)] [(.int (fn12U (2 : Int32) [u0, u1, u2, u3, u4, u5, u6, u7] G1 w_sf))]) (fun _ k => XS.iloadN X8.here hx rfl (hb hby d5_22) rfl k) ?_
            refine gb (mkF m 25 #[vr a0, vi 2, vi (fn12U (2 : Int32) [u0, u1, u2, u3, u4, u5, u6, u7] G1 w_sf)] [(.int 9), (.int (fn12U (2 : Int32) [u0, u1, u2, u3, u4, u5, u6, u7] G1 w_sf))]) (fun _ k => XS.bipush X8.here hx rfl (hb hby d5_23) k) ?_
            refine gb (mkF m 28 #[vr a0, vi 2, vi (fn12U (2 : Int32) [u0, u1, u2, u3, u4, u5, u6, u7] G1 w_sf)] []) (fun _ k => XS.icmpNo X8.here hx rfl (hb hby d5_25) rfl (feq (fun q => hB9 (Or.inr q))).1 k) ?_
            refine gb (mkF m 29 #[vr a0, vi 2, vi (fn12U (2 : Int32) [u0, u1, u2, u3, u4, u5, u6, u7] G1 w_sf)] [(.int 0)]) (fun _ k => XS.iconst X8.here hx rfl (hb hby d5_28) k) ?_
            exact Gl.outN X8 hx hk (t := .boolean) Bd.returns (by simp) (hb hby d5_29) ⟨(congrArg (fun z => some (Value.int z)) (show nar .boolean (0 : Int32) = fn54U u0 u1 u2 u3 u4 u5 u6 u7 G1 w_sf by unfold fn54U; rw [if_pos hB3, if_pos hB6, if_neg hB9]; try rfl)), N8, e8⟩ (by decide) (by decide)
        rcases hB6 with q6 | q6
        · refine gb (mkF m 17 #[vr a0, vi 1, vi (fn12U (1 : Int32) [u0, u1, u2, u3, u4, u5, u6, u7] G1 w_sf)] [(.int (fn12U (1 : Int32) [u0, u1, u2, u3, u4, u5, u6, u7] G1 w_sf))]) (fun _ k => XS.iloadN X5.here hx rfl (hb hby d5_16) rfl k) ?_
          refine gb (mkF m 19 #[vr a0, vi 1, vi (fn12U (1 : Int32) [u0, u1, u2, u3, u4, u5, u6, u7] G1 w_sf)] [(.int 32), (.int (fn12U (1 : Int32) [u0, u1, u2, u3, u4, u5, u6, u7] G1 w_sf))]) (fun _ k => XS.bipush X5.here hx rfl (hb hby d5_17) k) ?_
          refine gb (mkF m 30 #[vr a0, vi 1, vi (fn12U (1 : Int32) [u0, u1, u2, u3, u4, u5, u6, u7] G1 w_sf)] []) (fun _ k => XS.icmpYes X5.here hx rfl (pc0 := 19) (pc' := 30) rfl (hb hby d5_19) rfl (teq q6).1 (by decide) (by decide) k) ?_
          exact J6 _ _ X5 e5 N5
        · refine gb (mkF m 17 #[vr a0, vi 1, vi (fn12U (1 : Int32) [u0, u1, u2, u3, u4, u5, u6, u7] G1 w_sf)] [(.int (fn12U (1 : Int32) [u0, u1, u2, u3, u4, u5, u6, u7] G1 w_sf))]) (fun _ k => XS.iloadN X5.here hx rfl (hb hby d5_16) rfl k) ?_
          refine gb (mkF m 19 #[vr a0, vi 1, vi (fn12U (1 : Int32) [u0, u1, u2, u3, u4, u5, u6, u7] G1 w_sf)] [(.int 32), (.int (fn12U (1 : Int32) [u0, u1, u2, u3, u4, u5, u6, u7] G1 w_sf))]) (fun _ k => XS.bipush X5.here hx rfl (hb hby d5_17) k) ?_
          refine gb (mkF m 22 #[vr a0, vi 1, vi (fn12U (1 : Int32) [u0, u1, u2, u3, u4, u5, u6, u7] G1 w_sf)] []) (fun _ k => XS.icmpNo X5.here hx rfl (hb hby d5_19) rfl (feq (fun z => absurd (q6.symm.trans z) (by decide))).1 k) ?_
          refine gb (mkF m 23 #[vr a0, vi 1, vi (fn12U (1 : Int32) [u0, u1, u2, u3, u4, u5, u6, u7] G1 w_sf)] [(.int (fn12U (1 : Int32) [u0, u1, u2, u3, u4, u5, u6, u7] G1 w_sf))]) (fun _ k => XS.iloadN X5.here hx rfl (hb hby d5_22) rfl k) ?_
          refine gb (mkF m 25 #[vr a0, vi 1, vi (fn12U (1 : Int32) [u0, u1, u2, u3, u4, u5, u6, u7] G1 w_sf)] [(.int 9), (.int (fn12U (1 : Int32) [u0, u1, u2, u3, u4, u5, u6, u7] G1 w_sf))]) (fun _ k => XS.bipush X5.here hx rfl (hb hby d5_23) k) ?_
          refine gb (mkF m 30 #[vr a0, vi 1, vi (fn12U (1 : Int32) [u0, u1, u2, u3, u4, u5, u6, u7] G1 w_sf)] []) (fun _ k => XS.icmpYes X5.here hx rfl (pc0 := 25) (pc' := 30) rfl (hb hby d5_25) rfl (teq q6).1 (by decide) (by decide) k) ?_
          exact J6 _ _ X5 e5 N5
      · refine gb (mkF m 17 #[vr a0, vi 1, vi (fn12U (1 : Int32) [u0, u1, u2, u3, u4, u5, u6, u7] G1 w_sf)] [(.int (fn12U (1 : Int32) [u0, u1, u2, u3, u4, u5, u6, u7] G1 w_sf))]) (fun _ k => XS.iloadN X5.here hx rfl (hb hby d5_16) rfl k) ?_
        refine gb (mkF m 19 #[vr a0, vi 1, vi (fn12U (1 : Int32) [u0, u1, u2, u3, u4, u5, u6, u7] G1 w_sf)] [(.int 32), (.int (fn12U (1 : Int32) [u0, u1, u2, u3, u4, u5, u6, u7] G1 w_sf))]) (fun _ k => XS.bipush X5.here hx rfl (hb hby d5_17) k) ?_
        refine gb (mkF m 22 #[vr a0, vi 1, vi (fn12U (1 : Int32) [u0, u1, u2, u3, u4, u5, u6, u7] G1 w_sf)] []) (fun _ k => XS.icmpNo X5.here hx rfl (hb hby d5_19) rfl (feq (fun q => hB6 (Or.inl q))).1 k) ?_
        refine gb (mkF m 23 #[vr a0, vi 1, vi (fn12U (1 : Int32) [u0, u1, u2, u3, u4, u5, u6, u7] G1 w_sf)] [(.int (fn12U (1 : Int32) [u0, u1, u2, u3, u4, u5, u6, u7] G1 w_sf))]) (fun _ k => XS.iloadN X5.here hx rfl (hb hby d5_22) rfl k) ?_
        refine gb (mkF m 25 #[vr a0, vi 1, vi (fn12U (1 : Int32) [u0, u1, u2, u3, u4, u5, u6, u7] G1 w_sf)] [(.int 9), (.int (fn12U (1 : Int32) [u0, u1, u2, u3, u4, u5, u6, u7] G1 w_sf))]) (fun _ k => XS.bipush X5.here hx rfl (hb hby d5_23) k) ?_
        refine gb (mkF m 28 #[vr a0, vi 1, vi (fn12U (1 : Int32) [u0, u1, u2, u3, u4, u5, u6, u7] G1 w_sf)] []) (fun _ k => XS.icmpNo X5.here hx rfl (hb hby d5_25) rfl (feq (fun q => hB6 (Or.inr q))).1 k) ?_
        refine gb (mkF m 29 #[vr a0, vi 1, vi (fn12U (1 : Int32) [u0, u1, u2, u3, u4, u5, u6, u7] G1 w_sf)] [(.int 0)]) (fun _ k => XS.iconst X5.here hx rfl (hb hby d5_28) k) ?_
        exact Gl.outN X5 hx hk (t := .boolean) Bd.returns (by simp) (hb hby d5_29) ⟨(congrArg (fun z => some (Value.int z)) (show nar .boolean (0 : Int32) = fn54U u0 u1 u2 u3 u4 u5 u6 u7 G1 w_sf by unfold fn54U; rw [if_pos hB3, if_neg hB6]; try rfl)), N5, e5⟩ (by decide) (by decide)
    rcases hB3 with q3 | q3
    · refine gb (mkF m 17 #[vr a0, vi 0, vi (fn12U (0 : Int32) [u0, u1, u2, u3, u4, u5, u6, u7] G1 w_sf)] [(.int (fn12U (0 : Int32) [u0, u1, u2, u3, u4, u5, u6, u7] G1 w_sf))]) (fun _ k => XS.iloadN X2.here hx rfl (hb hby d5_16) rfl k) ?_
      refine gb (mkF m 19 #[vr a0, vi 0, vi (fn12U (0 : Int32) [u0, u1, u2, u3, u4, u5, u6, u7] G1 w_sf)] [(.int 32), (.int (fn12U (0 : Int32) [u0, u1, u2, u3, u4, u5, u6, u7] G1 w_sf))]) (fun _ k => XS.bipush X2.here hx rfl (hb hby d5_17) k) ?_
      refine gb (mkF m 30 #[vr a0, vi 0, vi (fn12U (0 : Int32) [u0, u1, u2, u3, u4, u5, u6, u7] G1 w_sf)] []) (fun _ k => XS.icmpYes X2.here hx rfl (pc0 := 19) (pc' := 30) rfl (hb hby d5_19) rfl (teq q3).1 (by decide) (by decide) k) ?_
      exact J3 _ _ X2 e2 N2
    · refine gb (mkF m 17 #[vr a0, vi 0, vi (fn12U (0 : Int32) [u0, u1, u2, u3, u4, u5, u6, u7] G1 w_sf)] [(.int (fn12U (0 : Int32) [u0, u1, u2, u3, u4, u5, u6, u7] G1 w_sf))]) (fun _ k => XS.iloadN X2.here hx rfl (hb hby d5_16) rfl k) ?_
      refine gb (mkF m 19 #[vr a0, vi 0, vi (fn12U (0 : Int32) [u0, u1, u2, u3, u4, u5, u6, u7] G1 w_sf)] [(.int 32), (.int (fn12U (0 : Int32) [u0, u1, u2, u3, u4, u5, u6, u7] G1 w_sf))]) (fun _ k => XS.bipush X2.here hx rfl (hb hby d5_17) k) ?_
      refine gb (mkF m 22 #[vr a0, vi 0, vi (fn12U (0 : Int32) [u0, u1, u2, u3, u4, u5, u6, u7] G1 w_sf)] []) (fun _ k => XS.icmpNo X2.here hx rfl (hb hby d5_19) rfl (feq (fun z => absurd (q3.symm.trans z) (by decide))).1 k) ?_
      refine gb (mkF m 23 #[vr a0, vi 0, vi (fn12U (0 : Int32) [u0, u1, u2, u3, u4, u5, u6, u7] G1 w_sf)] [(.int (fn12U (0 : Int32) [u0, u1, u2, u3, u4, u5, u6, u7] G1 w_sf))]) (fun _ k => XS.iloadN X2.here hx rfl (hb hby d5_22) rfl k) ?_
      refine gb (mkF m 25 #[vr a0, vi 0, vi (fn12U (0 : Int32) [u0, u1, u2, u3, u4, u5, u6, u7] G1 w_sf)] [(.int 9), (.int (fn12U (0 : Int32) [u0, u1, u2, u3, u4, u5, u6, u7] G1 w_sf))]) (fun _ k => XS.bipush X2.here hx rfl (hb hby d5_23) k) ?_
      refine gb (mkF m 30 #[vr a0, vi 0, vi (fn12U (0 : Int32) [u0, u1, u2, u3, u4, u5, u6, u7] G1 w_sf)] []) (fun _ k => XS.icmpYes X2.here hx rfl (pc0 := 25) (pc' := 30) rfl (hb hby d5_25) rfl (teq q3).1 (by decide) (by decide) k) ?_
      exact J3 _ _ X2 e2 N2
  · refine gb (mkF m 17 #[vr a0, vi 0, vi (fn12U (0 : Int32) [u0, u1, u2, u3, u4, u5, u6, u7] G1 w_sf)] [(.int (fn12U (0 : Int32) [u0, u1, u2, u3, u4, u5, u6, u7] G1 w_sf))]) (fun _ k => XS.iloadN X2.here hx rfl (hb hby d5_16) rfl k) ?_
    refine gb (mkF m 19 #[vr a0, vi 0, vi (fn12U (0 : Int32) [u0, u1, u2, u3, u4, u5, u6, u7] G1 w_sf)] [(.int 32), (.int (fn12U (0 : Int32) [u0, u1, u2, u3, u4, u5, u6, u7] G1 w_sf))]) (fun _ k => XS.bipush X2.here hx rfl (hb hby d5_17) k) ?_
    refine gb (mkF m 22 #[vr a0, vi 0, vi (fn12U (0 : Int32) [u0, u1, u2, u3, u4, u5, u6, u7] G1 w_sf)] []) (fun _ k => XS.icmpNo X2.here hx rfl (hb hby d5_19) rfl (feq (fun q => hB3 (Or.inl q))).1 k) ?_
    refine gb (mkF m 23 #[vr a0, vi 0, vi (fn12U (0 : Int32) [u0, u1, u2, u3, u4, u5, u6, u7] G1 w_sf)] [(.int (fn12U (0 : Int32) [u0, u1, u2, u3, u4, u5, u6, u7] G1 w_sf))]) (fun _ k => XS.iloadN X2.here hx rfl (hb hby d5_22) rfl k) ?_
    refine gb (mkF m 25 #[vr a0, vi 0, vi (fn12U (0 : Int32) [u0, u1, u2, u3, u4, u5, u6, u7] G1 w_sf)] [(.int 9), (.int (fn12U (0 : Int32) [u0, u1, u2, u3, u4, u5, u6, u7] G1 w_sf))]) (fun _ k => XS.bipush X2.here hx rfl (hb hby d5_23) k) ?_
    refine gb (mkF m 28 #[vr a0, vi 0, vi (fn12U (0 : Int32) [u0, u1, u2, u3, u4, u5, u6, u7] G1 w_sf)] []) (fun _ k => XS.icmpNo X2.here hx rfl (hb hby d5_25) rfl (feq (fun q => hB3 (Or.inr q))).1 k) ?_
    refine gb (mkF m 29 #[vr a0, vi 0, vi (fn12U (0 : Int32) [u0, u1, u2, u3, u4, u5, u6, u7] G1 w_sf)] [(.int 0)]) (fun _ k => XS.iconst X2.here hx rfl (hb hby d5_28) k) ?_
    exact Gl.outN X2 hx hk (t := .boolean) Bd.returns (by simp) (hb hby d5_29) ⟨(congrArg (fun z => some (Value.int z)) (show nar .boolean (0 : Int32) = fn54U u0 u1 u2 u3 u4 u5 u6 u7 G1 w_sf by unfold fn54U; rw [if_neg hB3]; try rfl)), N2, e2⟩ (by decide) (by decide)
theorem d1_0 : decode method_3_code 0 = .ok (.iload_n 0, 1) := by decide +kernel
theorem d1_1 : decode method_3_code 1 = .ok (.iconst 3, 1) := by decide +kernel
theorem d1_2 : decode method_3_code 2 = .ok (.iand, 1) := by decide +kernel
theorem d1_3 : decode method_3_code 3 = .ok (.istore_n 1, 1) := by decide +kernel
theorem d1_4 : decode method_3_code 4 = .ok (.iload_n 1, 1) := by decide +kernel
theorem d1_5 : decode method_3_code 5 = .ok (.ifCond .ne 6, 3) := by decide +kernel
theorem d1_8 : decode method_3_code 8 = .ok (.bipush 32, 2) := by decide +kernel
theorem d1_10 : decode method_3_code 10 = .ok (.ireturn, 1) := by decide +kernel
theorem d1_11 : decode method_3_code 11 = .ok (.iload_n 1, 1) := by decide +kernel
theorem d1_12 : decode method_3_code 12 = .ok (.iconst 1, 1) := by decide +kernel
theorem d1_13 : decode method_3_code 13 = .ok (.if_icmp .ne 6, 3) := by decide +kernel
theorem d1_16 : decode method_3_code 16 = .ok (.bipush 9, 2) := by decide +kernel
theorem d1_18 : decode method_3_code 18 = .ok (.ireturn, 1) := by decide +kernel
theorem d1_19 : decode method_3_code 19 = .ok (.iload_n 0, 1) := by decide +kernel
theorem d1_20 : decode method_3_code 20 = .ok (.iconst 2, 1) := by decide +kernel
theorem d1_21 : decode method_3_code 21 = .ok (.iushr, 1) := by decide +kernel
theorem d1_22 : decode method_3_code 22 = .ok (.i2c, 1) := by decide +kernel
theorem d1_23 : decode method_3_code 23 = .ok (.ireturn, 1) := by decide +kernel
theorem pn5 : plainName "com/example/gatewarden/gatewarden/formats/PhysicalLinesIsBlankPinLaw" = true := by first | (simp [plainName, overriddenIn]; done) | decide +kernel
theorem ef1 (m : MethodId) (x0 : Int32) : entryFrame m #[(.int x0)] 2 = mkF m 0 #[.val (.int x0), .unset] [] := by first | (simp [entryFrame, mkF, argsToLocals, Value.category]; done) | rfl
def fn1 (p0 : Int32) (G1 : Int32) (w_sf : Value) : Int32 := if (p0 &&& (3 : Int32)) = (0 : Int32) then (nar .char (32 : Int32)) else if (p0 &&& (3 : Int32)) = (1 : Int32) then (nar .char (9 : Int32)) else (nar .char (((p0.toUInt32 >>> ((2 : Int32) &&& 31).toUInt32).toInt32).toUInt32.toUInt16.toUInt32.toInt32))
def Q1 (Z : State) (p0 : Int32) (G1 : Int32) (w_sf : Value) (h0 : Heap) (n0 : Nat) (v : Option Value) (h : Heap) (L : List Loc) : Prop := v = some (.int (fn1 p0 G1 w_sf)) ∧ Fr n0 L ∧ h = h0
theorem rm1 (l : Launch) (Z : State) (a0' : Array Value) (hw : ∀ d ∈ tables_1, d.before a0' Z = true) (ws : List Jvm.Cond) (p0 : Int32) (G1 : Int32) (w_sf : Value) (h0 : Heap) (n0 : Nat) (O : Old Z n0 h0) (W : Wd Z G1 w_sf) :
    MetFree l mq21 (head1 (Jvm.Cond.code mq21 method_3_code 2 (some .char) :: ws) ({ frames := 0, cells := 0, slots := 0, locals := 0 } : Room)) (fun a U => a = #[(.int p0)] ∧ Z.Warmed39 U.vm ∧ U.heap = h0) (fun _ _ _ _ _ => True) (fun _ U o U' => ∃ v L, o = .returned v ∧ Q1 Z p0 G1 w_sf h0 n0 v U'.heap L ∧ FrameEnd U o U' L ({ frames := 0, cells := 0, slots := 0, locals := 0 } : Room).cells ({ frames := 0, cells := 0, slots := 0, locals := 0 } : Room).slots) := by
  refine MetFree.of_bodySF (plainFor_of_name pn5) hisR ?_
  intro p e s m args below meth c s₁ Bd hml0 hP hK
  obtain ⟨rfl, hZ, hh⟩ := hP
  have hx := Bd.exec
  have hby := Bd.bytes
  have hml : c.maxLocals = 2 := hml0
  have hown : s.vm.findClass "com/example/gatewarden/gatewarden/formats/PhysicalLinesIsBlankPinLaw" = some m.cls := findClass_of_methodNamed Bd.named
  have hnm := (name_of_methodNamed Bd.named Bd.method).1
  have hk := Bd.notSynchronized
  have X0 : Stand p l e ({ frames := 0, cells := 0, slots := 0, locals := 0 } : Room) s m #[(.int p0)] below meth c s₁ [] 0 0 := Stand.of_body Bd
  have hh2 := hh
  have e0 : s₁.heap = h0 := by rw [← hh, Bd.state]; rfl
  have N0 := Fr.nil n0
  show Gl p e below (Pos 0 0 (Q1 Z p0 G1 w_sf h0 n0) s) s₁ _
  refine Gl.cast (ef1 m p0) ?_
  refine gb (mkF m 1 #[vi p0, .unset] [(.int p0)]) (fun _ k => XS.iloadN X0.here hx rfl (hb hby d1_0) rfl k) ?_
  refine gb (mkF m 2 #[vi p0, .unset] [(.int 3), (.int p0)]) (fun _ k => XS.iconst X0.here hx rfl (hb hby d1_1) k) ?_
  refine gb (mkF m 3 #[vi p0, .unset] [(.int (p0 &&& (3 : Int32)))]) (fun _ k => XS.iand X0.here hx rfl (hb hby d1_2) rfl k) ?_
  refine gb (mkF m 4 #[vi p0, vi (p0 &&& (3 : Int32))] []) (fun _ k => XS.istoreN X0.here hx rfl (hb hby d1_3) rfl (l' := #[vi p0, vi (p0 &&& (3 : Int32))]) rfl k) ?_
  refine gb (mkF m 5 #[vi p0, vi (p0 &&& (3 : Int32))] [(.int (p0 &&& (3 : Int32)))]) (fun _ k => XS.iloadN X0.here hx rfl (hb hby d1_4) rfl k) ?_
  by_cases hf1 : (p0 &&& (3 : Int32)) = (0 : Int32)
  · refine gb (mkF m 8 #[vi p0, vi (p0 &&& (3 : Int32))] []) (fun _ k => XS.ifNo X0.here hx rfl (hb hby d1_5) rfl ((if0 _ _).trans (teq hf1).2) k) ?_
    refine gb (mkF m 10 #[vi p0, vi (p0 &&& (3 : Int32))] [(.int 32)]) (fun _ k => XS.bipush X0.here hx rfl (hb hby d1_8) k) ?_
    exact Gl.outN X0 hx hk (t := .char) Bd.returns (by simp) (hb hby d1_10) ⟨(congrArg (fun z => some (Value.int z)) (show nar .char (32 : Int32) = fn1 p0 G1 w_sf by unfold fn1; rw [if_pos hf1]; try rfl)), N0, e0⟩ (by decide) (by decide)
  · refine gb (mkF m 11 #[vi p0, vi (p0 &&& (3 : Int32))] []) (fun _ k => XS.ifYes X0.here hx rfl (pc0 := 5) (pc' := 11) rfl (hb hby d1_5) rfl ((if0 _ _).trans (feq hf1).2) (by decide) (by decide) k) ?_
    refine gb (mkF m 12 #[vi p0, vi (p0 &&& (3 : Int32))] [(.int (p0 &&& (3 : Int32)))]) (fun _ k => XS.iloadN X0.here hx rfl (hb hby d1_11) rfl k) ?_
    refine gb (mkF m 13 #[vi p0, vi (p0 &&& (3 : Int32))] [(.int 1), (.int (p0 &&& (3 : Int32)))]) (fun _ k => XS.iconst X0.here hx rfl (hb hby d1_12) k) ?_
    by_cases hf2 : (p0 &&& (3 : Int32)) = (1 : Int32)
    · refine gb (mkF m 16 #[vi p0, vi (p0 &&& (3 : Int32))] []) (fun _ k => XS.icmpNo X0.here hx rfl (hb hby d1_13) rfl (teq hf2).2 k) ?_
      refine gb (mkF m 18 #[vi p0, vi (p0 &&& (3 : Int32))] [(.int 9)]) (fun _ k => XS.bipush X0.here hx rfl (hb hby d1_16) k) ?_
      exact Gl.outN X0 hx hk (t := .char) Bd.returns (by simp) (hb hby d1_18) ⟨(congrArg (fun z => some (Value.int z)) (show nar .char (9 : Int32) = fn1 p0 G1 w_sf by unfold fn1; rw [if_neg hf1, if_pos hf2]; try rfl)), N0, e0⟩ (by decide) (by decide)
    · refine gb (mkF m 19 #[vi p0, vi (p0 &&& (3 : Int32))] []) (fun _ k => XS.icmpYes X0.here hx rfl (pc0 := 13) (pc' := 19) rfl (hb hby d1_13) rfl (feq hf2).2 (by decide) (by decide) k) ?_
      refine gb (mkF m 20 #[vi p0, vi (p0 &&& (3 : Int32))] [(.int p0)]) (fun _ k => XS.iloadN X0.here hx rfl (hb hby d1_19) rfl k) ?_
      refine gb (mkF m 21 #[vi p0, vi (p0 &&& (3 : Int32))] [(.int 2), (.int p0)]) (fun _ k => XS.iconst X0.here hx rfl (hb hby d1_20) k) ?_
      refine gb (mkF m 22 #[vi p0, vi (p0 &&& (3 : Int32))] [(.int ((p0.toUInt32 >>> ((2 : Int32) &&& 31).toUInt32).toInt32))]) (fun _ k => XS.iushr X0.here hx rfl (hb hby d1_21) rfl k) ?_
      refine gb (mkF m 23 #[vi p0, vi (p0 &&& (3 : Int32))] [(.int (((p0.toUInt32 >>> ((2 : Int32) &&& 31).toUInt32).toInt32).toUInt32.toUInt16.toUInt32.toInt32))]) (fun _ k => XS.i2c X0.here hx rfl (hb hby d1_22) rfl k) ?_
      exact Gl.outN X0 hx hk (t := .char) Bd.returns (by simp) (hb hby d1_23) ⟨(congrArg (fun z => some (Value.int z)) (show nar .char (((p0.toUInt32 >>> ((2 : Int32) &&& 31).toUInt32).toInt32).toUInt32.toUInt16.toUInt32.toInt32) = fn1 p0 G1 w_sf by unfold fn1; rw [if_neg hf1, if_neg hf2]; try rfl)), N0, e0⟩ (by decide) (by decide)
theorem d8_0 : decode method_4_code 0 = .ok (.iload_n 0, 1) := by decide +kernel
theorem d8_1 : decode method_4_code 1 = .ok (.bipush 32, 2) := by decide +kernel
theorem d8_3 : decode method_4_code 3 = .ok (.if_icmp .eq 9, 3) := by decide +kernel
theorem d8_6 : decode method_4_code 6 = .ok (.iload_n 0, 1) := by decide +kernel
theorem d8_7 : decode method_4_code 7 = .ok (.bipush 9, 2) := by decide +kernel
theorem d8_9 : decode method_4_code 9 = .ok (.if_icmp .ne 7, 3) := by decide +kernel
theorem d8_12 : decode method_4_code 12 = .ok (.iconst 1, 1) := by decide +kernel
theorem d8_13 : decode method_4_code 13 = .ok (.goto 4, 3) := by decide +kernel
theorem d8_16 : decode method_4_code 16 = .ok (.iconst 0, 1) := by decide +kernel
theorem d8_17 : decode method_4_code 17 = .ok (.ireturn, 1) := by decide +kernel
theorem ef8 (m : MethodId) (x0 : Int32) : entryFrame m #[(.int x0)] 1 = mkF m 0 #[.val (.int x0)] [] := by first | (simp [entryFrame, mkF, argsToLocals, Value.category]; done) | rfl
def fn8 (p0 : Int32) (G1 : Int32) (w_sf : Value) : Int32 := if p0 = (32 : Int32) then (1 : Int32) else if p0 = (9 : Int32) then (1 : Int32) else (0 : Int32)
def Q8 (Z : State) (p0 : Int32) (G1 : Int32) (w_sf : Value) (h0 : Heap) (n0 : Nat) (v : Option Value) (h : Heap) (L : List Loc) : Prop := v = some (.int (fn8 p0 G1 w_sf)) ∧ Fr n0 L ∧ h = h0
theorem rm8 (l : Launch) (Z : State) (a0' : Array Value) (hw : ∀ d ∈ tables_1, d.before a0' Z = true) (ws : List Jvm.Cond) (p0 : Int32) (G1 : Int32) (w_sf : Value) (h0 : Heap) (n0 : Nat) (O : Old Z n0 h0) (W : Wd Z G1 w_sf) :
    MetFree l mq22 (head1 (Jvm.Cond.code mq22 method_4_code 1 (some .boolean) :: ws) ({ frames := 0, cells := 0, slots := 0, locals := 0 } : Room)) (fun a U => a = #[(.int p0)] ∧ Z.Warmed39 U.vm ∧ U.heap = h0) (fun _ _ _ _ _ => True) (fun _ U o U' => ∃ v L, o = .returned v ∧ Q8 Z p0 G1 w_sf h0 n0 v U'.heap L ∧ FrameEnd U o U' L ({ frames := 0, cells := 0, slots := 0, locals := 0 } : Room).cells ({ frames := 0, cells := 0, slots := 0, locals := 0 } : Room).slots) := by
  refine MetFree.of_bodySF (plainFor_of_name pn5) hisR ?_
  intro p e s m args below meth c s₁ Bd hml0 hP hK
  obtain ⟨rfl, hZ, hh⟩ := hP
  have hx := Bd.exec
  have hby := Bd.bytes
  have hml : c.maxLocals = 1 := hml0
  have hown : s.vm.findClass "com/example/gatewarden/gatewarden/formats/PhysicalLinesIsBlankPinLaw" = some m.cls := findClass_of_methodNamed Bd.named
  have hnm := (name_of_methodNamed Bd.named Bd.method).1
  have hk := Bd.notSynchronized
  have X0 : Stand p l e ({ frames := 0, cells := 0, slots := 0, locals := 0 } : Room) s m #[(.int p0)] below meth c s₁ [] 0 0 := Stand.of_body Bd
  have hh2 := hh
  have e0 : s₁.heap = h0 := by rw [← hh, Bd.state]; rfl
  have N0 := Fr.nil n0
  show Gl p e below (Pos 0 0 (Q8 Z p0 G1 w_sf h0 n0) s) s₁ _
  refine Gl.cast (ef8 m p0) ?_
  refine gb (mkF m 1 #[vi p0] [(.int p0)]) (fun _ k => XS.iloadN X0.here hx rfl (hb hby d8_0) rfl k) ?_
  refine gb (mkF m 3 #[vi p0] [(.int 32), (.int p0)]) (fun _ k => XS.bipush X0.here hx rfl (hb hby d8_1) k) ?_
  by_cases hf1 : p0 = (32 : Int32)
  · refine gb (mkF m 12 #[vi p0] []) (fun _ k => XS.icmpYes X0.here hx rfl (pc0 := 3) (pc' := 12) rfl (hb hby d8_3) rfl (teq hf1).1 (by decide) (by decide) k) ?_
    refine gb (mkF m 13 #[vi p0] [(.int 1)]) (fun _ k => XS.iconst X0.here hx rfl (hb hby d8_12) k) ?_
    refine gb (mkF m 17 #[vi p0] [(.int 1)]) (fun _ k => XS.goto X0.here hx rfl (pc0 := 13) (pc' := 17) rfl (hb hby d8_13) (by decide) (by decide) k) ?_
    exact Gl.outN X0 hx hk (t := .boolean) Bd.returns (by simp) (hb hby d8_17) ⟨(congrArg (fun z => some (Value.int z)) (show nar .boolean (1 : Int32) = fn8 p0 G1 w_sf by unfold fn8; rw [if_pos hf1]; try rfl)), N0, e0⟩ (by decide) (by decide)
  · refine gb (mkF m 6 #[vi p0] []) (fun _ k => XS.icmpNo X0.here hx rfl (hb hby d8_3) rfl (feq hf1).1 k) ?_
    refine gb (mkF m 7 #[vi p0] [(.int p0)]) (fun _ k => XS.iloadN X0.here hx rfl (hb hby d8_6) rfl k) ?_
    refine gb (mkF m 9 #[vi p0] [(.int 9), (.int p0)]) (fun _ k => XS.bipush X0.here hx rfl (hb hby d8_7) k) ?_
    by_cases hf2 : p0 = (9 : Int32)
    · refine gb (mkF m 12 #[vi p0] []) (fun _ k => XS.icmpNo X0.here hx rfl (hb hby d8_9) rfl (teq hf2).2 k) ?_
      refine gb (mkF m 13 #[vi p0] [(.int 1)]) (fun _ k => XS.iconst X0.here hx rfl (hb hby d8_12) k) ?_
      refine gb (mkF m 17 #[vi p0] [(.int 1)]) (fun _ k => XS.goto X0.here hx rfl (pc0 := 13) (pc' := 17) rfl (hb hby d8_13) (by decide) (by decide) k) ?_
      exact Gl.outN X0 hx hk (t := .boolean) Bd.returns (by simp) (hb hby d8_17) ⟨(congrArg (fun z => some (Value.int z)) (show nar .boolean (1 : Int32) = fn8 p0 G1 w_sf by unfold fn8; rw [if_neg hf1, if_pos hf2]; try rfl)), N0, e0⟩ (by decide) (by decide)
    · refine gb (mkF m 16 #[vi p0] []) (fun _ k => XS.icmpYes X0.here hx rfl (pc0 := 9) (pc' := 16) rfl (hb hby d8_9) rfl (feq hf2).2 (by decide) (by decide) k) ?_
      refine gb (mkF m 17 #[vi p0] [(.int 0)]) (fun _ k => XS.iconst X0.here hx rfl (hb hby d8_16) k) ?_
      exact Gl.outN X0 hx hk (t := .boolean) Bd.returns (by simp) (hb hby d8_17) ⟨(congrArg (fun z => some (Value.int z)) (show nar .boolean (0 : Int32) = fn8 p0 G1 w_sf by unfold fn8; rw [if_neg hf1, if_neg hf2]; try rfl)), N0, e0⟩ (by decide) (by decide)
theorem nar_fn1 (p0 : Int32) (G1 : Int32) (w_sf : Value) : nar .char (fn1 p0 G1 w_sf) = fn1 p0 G1 w_sf := by
  unfold fn1; repeat' split
  all_goals first | exact nar_nar _ | rfl | decide
abbrev nT (p0 : Int32) : Int32 := ((p0 &&& (2147483647 : Int32)) % (5 : Int32))
theorem nn {x : Int32} : 0 ≤ ((x &&& (2147483647 : Int32)) % (5 : Int32)).toInt ∧ ((x &&& (2147483647 : Int32)) % (5 : Int32)).toInt < 5 := by
  have hm := c_mask x 2147483647 31 (by decide) (by decide)
  have hr := c_irem (x &&& 2147483647) 5 5 (by decide)
  omega
theorem nfour {x : Int32} (h0 : ¬ ((x &&& (2147483647 : Int32)) % (5 : Int32)) = (0 : Int32)) (h1 : ¬ ((x &&& (2147483647 : Int32)) % (5 : Int32)) = (1 : Int32)) (h2 : ¬ ((x &&& (2147483647 : Int32)) % (5 : Int32)) = (2 : Int32)) (h3 : ¬ ((x &&& (2147483647 : Int32)) % (5 : Int32)) = (3 : Int32)) : ((x &&& (2147483647 : Int32)) % (5 : Int32)) = (4 : Int32) := by
  have b := nn (x := x)
  generalize ((x &&& (2147483647 : Int32)) % (5 : Int32)) = k at *
  have z0 : (0 : Int32).toInt = 0 := by decide
  have z1 : (1 : Int32).toInt = 1 := by decide
  have z2 : (2 : Int32).toInt = 2 := by decide
  have z3 : (3 : Int32).toInt = 3 := by decide
  have z4 : (4 : Int32).toInt = 4 := by decide
  rw [← Int32.toInt_inj] at h0 h1 h2 h3 ⊢
  omega
theorem pd318 : parseMethodDescriptor "([C)V" = some ⟨[(.array .char)], none⟩ := by decide +kernel
theorem pd319 : parseMethodDescriptor "(Ljava/lang/String;)Z" = some ⟨[(.object "java/lang/String")], some .boolean⟩ := by decide +kernel
theorem pd320 : parseMethodDescriptor "(C)Z" = some ⟨[.char], some .boolean⟩ := by decide +kernel
theorem ef0 (m : MethodId) (x0 : Int32) (x1 : Int32) (x2 : Int32) (x3 : Int32) (x4 : Int32) : entryFrame m #[(.int x0), (.int x1), (.int x2), (.int x3), (.int x4)] maxLocals = mkF m 0 #[.val (.int x0), .val (.int x1), .val (.int x2), .val (.int x3), .val (.int x4), .unset, .unset, .unset, .unset, .unset, .unset, .unset] [] := by first | (simp [entryFrame, mkF, argsToLocals, Value.category, maxLocals]; done) | rfl
def fj0_0 (p0 : Int32) (p1 : Int32) (p2 : Int32) (p3 : Int32) (p4 : Int32) (G1 : Int32) (w_sf : Value) : Int32 := if (fn50A  G1 w_sf) = (1 : Int32) then (1 : Int32) else (0 : Int32)
def fj0_1 (p0 : Int32) (p1 : Int32) (p2 : Int32) (p3 : Int32) (p4 : Int32) (G1 : Int32) (w_sf : Value) : Int32 := if (fn8 (fn1 p1 G1 w_sf) G1 w_sf) = (0 : Int32) then (0 : Int32) else (1 : Int32)
def fj0_2 (p0 : Int32) (p1 : Int32) (p2 : Int32) (p3 : Int32) (p4 : Int32) (G1 : Int32) (w_sf : Value) : Int32 := if (fn51A (bL (nar .char (fn1 p1 G1 w_sf))) G1 w_sf) = (fj0_1 p0 p1 p2 p3 p4 G1 w_sf) then (1 : Int32) else (0 : Int32)
def fj0_3 (p0 : Int32) (p1 : Int32) (p2 : Int32) (p3 : Int32) (p4 : Int32) (G1 : Int32) (w_sf : Value) : Int32 := if (fn51U (bA (nar .char (fn1 p1 G1 w_sf))) (bB (nar .char (fn1 p1 G1 w_sf))) G1 w_sf) = (fj0_1 p0 p1 p2 p3 p4 G1 w_sf) then (1 : Int32) else (0 : Int32)
def fj0_4 (p0 : Int32) (p1 : Int32) (p2 : Int32) (p3 : Int32) (p4 : Int32) (G1 : Int32) (w_sf : Value) : Int32 := if (fn8 (fn1 p1 G1 w_sf) G1 w_sf) = (0 : Int32) then (0 : Int32) else if (fn8 (fn1 p2 G1 w_sf) G1 w_sf) = (0 : Int32) then (0 : Int32) else (1 : Int32)
def fj0_5 (p0 : Int32) (p1 : Int32) (p2 : Int32) (p3 : Int32) (p4 : Int32) (G1 : Int32) (w_sf : Value) : Int32 := if (fn52A (bL (nar .char (fn1 p1 G1 w_sf))) (bL (nar .char (fn1 p2 G1 w_sf))) G1 w_sf) = (fj0_4 p0 p1 p2 p3 p4 G1 w_sf) then (1 : Int32) else (0 : Int32)
def fj0_6 (p0 : Int32) (p1 : Int32) (p2 : Int32) (p3 : Int32) (p4 : Int32) (G1 : Int32) (w_sf : Value) : Int32 := if (fn52U (bA (nar .char (fn1 p1 G1 w_sf))) (bB (nar .char (fn1 p1 G1 w_sf))) (bA (nar .char (fn1 p2 G1 w_sf))) (bB (nar .char (fn1 p2 G1 w_sf))) G1 w_sf) = (fj0_4 p0 p1 p2 p3 p4 G1 w_sf) then (1 : Int32) else (0 : Int32)
def fj0_7 (p0 : Int32) (p1 : Int32) (p2 : Int32) (p3 : Int32) (p4 : Int32) (G1 : Int32) (w_sf : Value) : Int32 := if (fn8 (fn1 p1 G1 w_sf) G1 w_sf) = (0 : Int32) then (0 : Int32) else if (fn8 (fn1 p2 G1 w_sf) G1 w_sf) = (0 : Int32) then (0 : Int32) else if (fn8 (fn1 p3 G1 w_sf) G1 w_sf) = (0 : Int32) then (0 : Int32) else (1 : Int32)
def fj0_8 (p0 : Int32) (p1 : Int32) (p2 : Int32) (p3 : Int32) (p4 : Int32) (G1 : Int32) (w_sf : Value) : Int32 := if (fn53A (bL (nar .char (fn1 p1 G1 w_sf))) (bL (nar .char (fn1 p2 G1 w_sf))) (bL (nar .char (fn1 p3 G1 w_sf))) G1 w_sf) = (fj0_7 p0 p1 p2 p3 p4 G1 w_sf) then (1 : Int32) else (0 : Int32)
def fj0_9 (p0 : Int32) (p1 : Int32) (p2 : Int32) (p3 : Int32) (p4 : Int32) (G1 : Int32) (w_sf : Value) : Int32 := if (fn53U (bA (nar .char (fn1 p1 G1 w_sf))) (bB (nar .char (fn1 p1 G1 w_sf))) (bA (nar .char (fn1 p2 G1 w_sf))) (bB (nar .char (fn1 p2 G1 w_sf))) (bA (nar .char (fn1 p3 G1 w_sf))) (bB (nar .char (fn1 p3 G1 w_sf))) G1 w_sf) = (fj0_7 p0 p1 p2 p3 p4 G1 w_sf) then (1 : Int32) else (0 : Int32)
def fj0_10 (p0 : Int32) (p1 : Int32) (p2 : Int32) (p3 : Int32) (p4 : Int32) (G1 : Int32) (w_sf : Value) : Int32 := if (fn8 (fn1 p1 G1 w_sf) G1 w_sf) = (0 : Int32) then (0 : Int32) else if (fn8 (fn1 p2 G1 w_sf) G1 w_sf) = (0 : Int32) then (0 : Int32) else if (fn8 (fn1 p3 G1 w_sf) G1 w_sf) = (0 : Int32) then (0 : Int32) else if (fn8 (fn1 p4 G1 w_sf) G1 w_sf) = (0 : Int32) then (0 : Int32) else (1 : Int32)
def fj0_11 (p0 : Int32) (p1 : Int32) (p2 : Int32) (p3 : Int32) (p4 : Int32) (G1 : Int32) (w_sf : Value) : Int32 := if (fn54A (bL (nar .char (fn1 p1 G1 w_sf))) (bL (nar .char (fn1 p2 G1 w_sf))) (bL (nar .char (fn1 p3 G1 w_sf))) (bL (nar .char (fn1 p4 G1 w_sf))) G1 w_sf) = (fj0_10 p0 p1 p2 p3 p4 G1 w_sf) then (1 : Int32) else (0 : Int32)
def fj0_12 (p0 : Int32) (p1 : Int32) (p2 : Int32) (p3 : Int32) (p4 : Int32) (G1 : Int32) (w_sf : Value) : Int32 := if (fn54U (bA (nar .char (fn1 p1 G1 w_sf))) (bB (nar .char (fn1 p1 G1 w_sf))) (bA (nar .char (fn1 p2 G1 w_sf))) (bB (nar .char (fn1 p2 G1 w_sf))) (bA (nar .char (fn1 p3 G1 w_sf))) (bB (nar .char (fn1 p3 G1 w_sf))) (bA (nar .char (fn1 p4 G1 w_sf))) (bB (nar .char (fn1 p4 G1 w_sf))) G1 w_sf) = (fj0_10 p0 p1 p2 p3 p4 G1 w_sf) then (1 : Int32) else (0 : Int32)
def fn0 (p0 : Int32) (p1 : Int32) (p2 : Int32) (p3 : Int32) (p4 : Int32) (G1 : Int32) (w_sf : Value) : Int32 := if ((p0 &&& (2147483647 : Int32)) % (5 : Int32)) = (0 : Int32) then (nar .boolean (fj0_0 p0 p1 p2 p3 p4 G1 w_sf)) else if ((p0 &&& (2147483647 : Int32)) % (5 : Int32)) = (1 : Int32) then if (255 : Int32) < (nar .char (fn1 p1 G1 w_sf)) then (nar .boolean (fj0_3 p0 p1 p2 p3 p4 G1 w_sf)) else (nar .boolean (fj0_2 p0 p1 p2 p3 p4 G1 w_sf)) else if ((p0 &&& (2147483647 : Int32)) % (5 : Int32)) = (2 : Int32) then if (255 : Int32) < (nar .char (fn1 p1 G1 w_sf)) ∨ (255 : Int32) < (nar .char (fn1 p2 G1 w_sf)) then (nar .boolean (fj0_6 p0 p1 p2 p3 p4 G1 w_sf)) else (nar .boolean (fj0_5 p0 p1 p2 p3 p4 G1 w_sf)) else if ((p0 &&& (2147483647 : Int32)) % (5 : Int32)) = (3 : Int32) then if (255 : Int32) < (nar .char (fn1 p1 G1 w_sf)) ∨ (255 : Int32) < (nar .char (fn1 p2 G1 w_sf)) ∨ (255 : Int32) < (nar .char (fn1 p3 G1 w_sf)) then (nar .boolean (fj0_9 p0 p1 p2 p3 p4 G1 w_sf)) else (nar .boolean (fj0_8 p0 p1 p2 p3 p4 G1 w_sf)) else if (255 : Int32) < (nar .char (fn1 p1 G1 w_sf)) ∨ (255 : Int32) < (nar .char (fn1 p2 G1 w_sf)) ∨ (255 : Int32) < (nar .char (fn1 p3 G1 w_sf)) ∨ (255 : Int32) < (nar .char (fn1 p4 G1 w_sf)) then (nar .boolean (fj0_12 p0 p1 p2 p3 p4 G1 w_sf)) else (nar .boolean (fj0_11 p0 p1 p2 p3 p4 G1 w_sf))
def Q0 (Z : State) (p0 : Int32) (p1 : Int32) (p2 : Int32) (p3 : Int32) (p4 : Int32) (G1 : Int32) (w_sf : Value) (h0 : Heap) (n0 : Nat) (v : Option Value) (h : Heap) (L : List Loc) : Prop := v = some (.int (fn0 p0 p1 p2 p3 p4 G1 w_sf)) ∧ Fr n0 L
theorem rm0 (l : Launch) (Z : State) (a0' : Array Value) (hw : ∀ d ∈ tables_1, d.before a0' Z = true) (ws : List Jvm.Cond) (p0 : Int32) (p1 : Int32) (p2 : Int32) (p3 : Int32) (p4 : Int32) (G1 : Int32) (w_sf : Value) (h0 : Heap) (n0 : Nat) (O : Old Z n0 h0) (W : Wd Z G1 w_sf) :
    MetFree l x (head1 (Jvm.Cond.code x code maxLocals ret :: ws) room_1) (fun a U => a = #[(.int p0), (.int p1), (.int p2), (.int p3), (.int p4)] ∧ Z.Warmed39 U.vm ∧ U.heap = h0 ∧ CHv Z EL0 U.vm h0 ∧ ∀ x ∈ ([] : List Addr), x < h0.size ∧ Safe Z EL0 U.vm h0 x) (fun _ _ _ _ _ => True) (fun _ U o U' => ∃ v L, o = .returned v ∧ Q0 Z p0 p1 p2 p3 p4 G1 w_sf h0 n0 v U'.heap L ∧ ReturnedEndW U o U' L 24 1152) := by
  refine MetFree.of_bodySF (plainFor_of_name pn5) hisR ?_
  intro p e s m args below meth c s₁ Bd hml0 hP hK
  obtain ⟨rfl, hZ, hh, hCH, hSf⟩ := hP
  have hx := Bd.exec
  have hby := Bd.bytes
  have hml : c.maxLocals = 12 := hml0
  have hown : s.vm.findClass "com/example/gatewarden/gatewarden/formats/PhysicalLinesIsBlankPinLaw" = some m.cls := findClass_of_methodNamed Bd.named
  have hnm := (name_of_methodNamed Bd.named Bd.method).1
  have hk := Bd.notSynchronized
  have X0 : Stand p l e room_1 (s.setVm s.vm) m #[(.int p0), (.int p1), (.int p2), (.int p3), (.int p4)] below meth c s₁ [] 0 0 := Stand.of_body Bd
  have hS : s.Since s.vm h0.size := State.WarmedH.since (State.WarmedH.refl s) _
  have e0 : s₁.heap = h0 := by rw [← hh, Bd.state]; rfl
  have N0 := Fr.nil n0
  show Gl p e below (PosW 24 1152 (Q0 Z p0 p1 p2 p3 p4 G1 w_sf h0 n0) s) s₁ _
  refine Gl.cast (ef0 m p0 p1 p2 p3 p4) ?_
  refine gb (mkF m 1 #[vi p0, vi p1, vi p2, vi p3, vi p4, .unset, .unset, .unset, .unset, .unset, .unset, .unset] [(.int p0)]) (fun _ k => XS.iloadN X0.here hx rfl (hb hby at_0) rfl k) ?_
  refine gb (mkF m 3 #[vi p0, vi p1, vi p2, vi p3, vi p4, .unset, .unset, .unset, .unset, .unset, .unset, .unset] [(.int 2147483647), (.int p0)]) (X0.ldcInt hx hown (mvT hZ (hW hw 0 rfl)) (g := (mkF m 1 #[vi p0, vi p1, vi p2, vi p3, vi p4, .unset, .unset, .unset, .unset, .unset, .unset, .unset] [(.int p0)])) rfl (hb hby at_1)) ?_
  refine gb (mkF m 4 #[vi p0, vi p1, vi p2, vi p3, vi p4, .unset, .unset, .unset, .unset, .unset, .unset, .unset] [(.int (p0 &&& (2147483647 : Int32)))]) (fun _ k => XS.iand X0.here hx rfl (hb hby at_3) rfl k) ?_
  refine gb (mkF m 5 #[vi p0, vi p1, vi p2, vi p3, vi p4, .unset, .unset, .unset, .unset, .unset, .unset, .unset] [(.int 5), (.int (p0 &&& (2147483647 : Int32)))]) (fun _ k => XS.iconst X0.here hx rfl (hb hby at_4) k) ?_
  refine gb (mkF m 6 #[vi p0, vi p1, vi p2, vi p3, vi p4, .unset, .unset, .unset, .unset, .unset, .unset, .unset] [(.int (nT p0))]) (fun _ k => iremM X0 hx rfl (hb hby at_5) rfl (by decide) k) ?_
  refine gb (mkF m 8 #[vi p0, vi p1, vi p2, vi p3, vi p4, vi (nT p0), .unset, .unset, .unset, .unset, .unset, .unset] []) (fun _ k => XS.istore X0.here hx rfl (hb hby at_6) rfl (l' := #[vi p0, vi p1, vi p2, vi p3, vi p4, vi (nT p0), .unset, .unset, .unset, .unset, .unset, .unset]) rfl k) ?_
  refine gb (mkF m 9 #[vi p0, vi p1, vi p2, vi p3, vi p4, vi (nT p0), .unset, .unset, .unset, .unset, .unset, .unset] [(.int p1)]) (fun _ k => XS.iloadN X0.here hx rfl (hb hby at_8) rfl k) ?_
  obtain ⟨_, _, ⟨T1, L1, k1, n1⟩, -, X1, ⟨Lc1, hQ1, l1, y1, z1⟩, st1⟩ := callS X0 hx (y := mq21) hown (mvT hZ (hW hw 1 rfl)) (mvT hZ (hW hw 2 rfl)) (mvT hZ (hW hw 3 rfl)) (mvT hZ (hW hw 4 rfl)) (by decide) (backOf (W := 0) (rm1 l Z a0' hw [] p1 G1 w_sf h0 n0 O W ) hZ (hW hw 4 rfl) (hW hw 3 rfl) (by decide) (by decide)) (g := (mkF m 9 #[vi p0, vi p1, vi p2, vi p3, vi p4, vi (nT p0), .unset, .unset, .unset, .unset, .unset, .unset] [(.int p1)])) rfl (by rw [hml]; rfl) (argsL := [(.int p1)]) (rest := []) (lenOf pd289 rfl) rfl (Nat.le_of_eq rfl) (hb hby at_9) (fun _ _ => ⟨rfl, e0, (by decide : 0 + 0 ≤ _), (by decide : 0 + 0 ≤ _)⟩)
  dsimp only [Pt.U, Pt.locs, Pt.cells, Pt.slots] at X1 l1 y1 z1 st1 hQ1
  subst l1 y1 z1
  obtain ⟨rfl, N1q, e1⟩ := hQ1
  have N1 := Fr.app N0 N1q
  refine gb (mkF m 12 #[vi p0, vi p1, vi p2, vi p3, vi p4, vi (nT p0), .unset, .unset, .unset, .unset, .unset, .unset] [(.int (fn1 p1 G1 w_sf))]) st1 ?_
  refine gb (mkF m 14 #[vi p0, vi p1, vi p2, vi p3, vi p4, vi (nT p0), vi (fn1 p1 G1 w_sf), .unset, .unset, .unset, .unset, .unset] []) (fun _ k => XS.istore X1.here hx rfl (hb hby at_12) rfl (l' := #[vi p0, vi p1, vi p2, vi p3, vi p4, vi (nT p0), vi (fn1 p1 G1 w_sf), .unset, .unset, .unset, .unset, .unset]) rfl k) ?_
  refine gb (mkF m 15 #[vi p0, vi p1, vi p2, vi p3, vi p4, vi (nT p0), vi (fn1 p1 G1 w_sf), .unset, .unset, .unset, .unset, .unset] [(.int p2)]) (fun _ k => XS.iloadN X1.here hx rfl (hb hby at_14) rfl k) ?_
  obtain ⟨_, _, ⟨T2, L2, k2, n2⟩, -, X2, ⟨Lc2, hQ2, l2, y2, z2⟩, st2⟩ := callS X1 hx (y := mq21) hown (mvT hZ (hW hw 1 rfl)) (mvT hZ (hW hw 2 rfl)) (mvT hZ (hW hw 3 rfl)) (mvT hZ (hW hw 4 rfl)) (by decide) (backOf (W := 0) (rm1 l Z a0' hw [] p2 G1 w_sf h0 n0 O W ) hZ (hW hw 4 rfl) (hW hw 3 rfl) (by decide) (by decide)) (g := (mkF m 15 #[vi p0, vi p1, vi p2, vi p3, vi p4, vi (nT p0), vi (fn1 p1 G1 w_sf), .unset, .unset, .unset, .unset, .unset] [(.int p2)])) rfl (by rw [hml]; rfl) (argsL := [(.int p2)]) (rest := []) (lenOf pd289 rfl) rfl (Nat.le_of_eq rfl) (hb hby at_15) (fun _ _ => ⟨rfl, e1, (by decide : 0 + 0 ≤ _), (by decide : 0 + 0 ≤ _)⟩)
  dsimp only [Pt.U, Pt.locs, Pt.cells, Pt.slots] at X2 l2 y2 z2 st2 hQ2
  subst l2 y2 z2
  obtain ⟨rfl, N2q, e2⟩ := hQ2
  have N2 := Fr.app N1 N2q
  refine gb (mkF m 18 #[vi p0, vi p1, vi p2, vi p3, vi p4, vi (nT p0), vi (fn1 p1 G1 w_sf), .unset, .unset, .unset, .unset, .unset] [(.int (fn1 p2 G1 w_sf))]) st2 ?_
  refine gb (mkF m 20 #[vi p0, vi p1, vi p2, vi p3, vi p4, vi (nT p0), vi (fn1 p1 G1 w_sf), vi (fn1 p2 G1 w_sf), .unset, .unset, .unset, .unset] []) (fun _ k => XS.istore X2.here hx rfl (hb hby at_18) rfl (l' := #[vi p0, vi p1, vi p2, vi p3, vi p4, vi (nT p0), vi (fn1 p1 G1 w_sf), vi (fn1 p2 G1 w_sf), .unset, .unset, .unset, .unset]) rfl k) ?_
  refine gb (mkF m 21 #[vi p0, vi p1, vi p2, vi p3, vi p4, vi (nT p0), vi (fn1 p1 G1 w_sf), vi (fn1 p2 G1 w_sf), .unset, .unset, .unset, .unset] [(.int p3)]) (fun _ k => XS.iloadN X2.here hx rfl (hb hby at_20) rfl k) ?_
  obtain ⟨_, _, ⟨T3, L3, k3, n3⟩, -, X3, ⟨Lc3, hQ3, l3, y3, z3⟩, st3⟩ := callS X2 hx (y := mq21) hown (mvT hZ (hW hw 1 rfl)) (mvT hZ (hW hw 2 rfl)) (mvT hZ (hW hw 3 rfl)) (mvT hZ (hW hw 4 rfl)) (by decide) (backOf (W := 0) (rm1 l Z a0' hw [] p3 G1 w_sf h0 n0 O W ) hZ (hW hw 4 rfl) (hW hw 3 rfl) (by decide) (by decide)) (g := (mkF m 21 #[vi p0, vi p1, vi p2, vi p3, vi p4, vi (nT p0), vi (fn1 p1 G1 w_sf), vi (fn1 p2 G1 w_sf), .unset, .unset, .unset, .unset] [(.int p3)])) rfl (by rw [hml]; rfl) (argsL := [(.int p3)]) (rest := []) (lenOf pd289 rfl) rfl (Nat.le_of_eq rfl) (hb hby at_21) (fun _ _ => ⟨rfl, e2, (by decide : 0 + 0 ≤ _), (by decide : 0 + 0 ≤ _)⟩)
  dsimp only [Pt.U, Pt.locs, Pt.cells, Pt.slots] at X3 l3 y3 z3 st3 hQ3
  subst l3 y3 z3
  obtain ⟨rfl, N3q, e3⟩ := hQ3
  have N3 := Fr.app N2 N3q
  refine gb (mkF m 24 #[vi p0, vi p1, vi p2, vi p3, vi p4, vi (nT p0), vi (fn1 p1 G1 w_sf), vi (fn1 p2 G1 w_sf), .unset, .unset, .unset, .unset] [(.int (fn1 p3 G1 w_sf))]) st3 ?_
  refine gb (mkF m 26 #[vi p0, vi p1, vi p2, vi p3, vi p4, vi (nT p0), vi (fn1 p1 G1 w_sf), vi (fn1 p2 G1 w_sf), vi (fn1 p3 G1 w_sf), .unset, .unset, .unset] []) (fun _ k => XS.istore X3.here hx rfl (hb hby at_24) rfl (l' := #[vi p0, vi p1, vi p2, vi p3, vi p4, vi (nT p0), vi (fn1 p1 G1 w_sf), vi (fn1 p2 G1 w_sf), vi (fn1 p3 G1 w_sf), .unset, .unset, .unset]) rfl k) ?_
  refine gb (mkF m 28 #[vi p0, vi p1, vi p2, vi p3, vi p4, vi (nT p0), vi (fn1 p1 G1 w_sf), vi (fn1 p2 G1 w_sf), vi (fn1 p3 G1 w_sf), .unset, .unset, .unset] [(.int p4)]) (fun _ k => XS.iload X3.here hx rfl (hb hby at_26) rfl k) ?_
  obtain ⟨_, _, ⟨T4, L4, k4, n4⟩, -, X4, ⟨Lc4, hQ4, l4, y4, z4⟩, st4⟩ := callS X3 hx (y := mq21) hown (mvT hZ (hW hw 1 rfl)) (mvT hZ (hW hw 2 rfl)) (mvT hZ (hW hw 3 rfl)) (mvT hZ (hW hw 4 rfl)) (by decide) (backOf (W := 0) (rm1 l Z a0' hw [] p4 G1 w_sf h0 n0 O W ) hZ (hW hw 4 rfl) (hW hw 3 rfl) (by decide) (by decide)) (g := (mkF m 28 #[vi p0, vi p1, vi p2, vi p3, vi p4, vi (nT p0), vi (fn1 p1 G1 w_sf), vi (fn1 p2 G1 w_sf), vi (fn1 p3 G1 w_sf), .unset, .unset, .unset] [(.int p4)])) rfl (by rw [hml]; rfl) (argsL := [(.int p4)]) (rest := []) (lenOf pd289 rfl) rfl (Nat.le_of_eq rfl) (hb hby at_28) (fun _ _ => ⟨rfl, e3, (by decide : 0 + 0 ≤ _), (by decide : 0 + 0 ≤ _)⟩)
  dsimp only [Pt.U, Pt.locs, Pt.cells, Pt.slots] at X4 l4 y4 z4 st4 hQ4
  subst l4 y4 z4
  obtain ⟨rfl, N4q, e4⟩ := hQ4
  have N4 := Fr.app N3 N4q
  refine gb (mkF m 31 #[vi p0, vi p1, vi p2, vi p3, vi p4, vi (nT p0), vi (fn1 p1 G1 w_sf), vi (fn1 p2 G1 w_sf), vi (fn1 p3 G1 w_sf), .unset, .unset, .unset] [(.int (fn1 p4 G1 w_sf))]) st4 ?_
  refine gb (mkF m 33 #[vi p0, vi p1, vi p2, vi p3, vi p4, vi (nT p0), vi (fn1 p1 G1 w_sf), vi (fn1 p2 G1 w_sf), vi (fn1 p3 G1 w_sf), vi (fn1 p4 G1 w_sf), .unset, .unset] []) (fun _ k => XS.istore X4.here hx rfl (hb hby at_31) rfl (l' := #[vi p0, vi p1, vi p2, vi p3, vi p4, vi (nT p0), vi (fn1 p1 G1 w_sf), vi (fn1 p2 G1 w_sf), vi (fn1 p3 G1 w_sf), vi (fn1 p4 G1 w_sf), .unset, .unset]) rfl k) ?_
  refine gb (mkF m 35 #[vi p0, vi p1, vi p2, vi p3, vi p4, vi (nT p0), vi (fn1 p1 G1 w_sf), vi (fn1 p2 G1 w_sf), vi (fn1 p3 G1 w_sf), vi (fn1 p4 G1 w_sf), .unset, .unset] [(.int (nT p0))]) (fun _ k => XS.iload X4.here hx rfl (hb hby at_33) rfl k) ?_
  by_cases hf5 : (nT p0) = (0 : Int32)
  · refine gb (mkF m 38 #[vi p0, vi p1, vi p2, vi p3, vi p4, vi (nT p0), vi (fn1 p1 G1 w_sf), vi (fn1 p2 G1 w_sf), vi (fn1 p3 G1 w_sf), vi (fn1 p4 G1 w_sf), .unset, .unset] []) (fun _ k => XS.ifNo X4.here hx rfl (hb hby at_35) rfl ((if0 _ _).trans (teq hf5).2) k) ?_
    refine gb (mkF m 39 #[vi p0, vi p1, vi p2, vi p3, vi p4, vi (nT p0), vi (fn1 p1 G1 w_sf), vi (fn1 p2 G1 w_sf), vi (fn1 p3 G1 w_sf), vi (fn1 p4 G1 w_sf), .unset, .unset] [(.int 0)]) (fun _ k => XS.iconst X4.here hx rfl (hb hby at_38) k) ?_
    obtain ⟨T6, h6, k6, X6, e6, E6, A6, st6⟩ := newP X4 hx hZ (hW hw 5 rfl) e4 (g := (mkF m 39 #[vi p0, vi p1, vi p2, vi p3, vi p4, vi (nT p0), vi (fn1 p1 G1 w_sf), vi (fn1 p2 G1 w_sf), vi (fn1 p3 G1 w_sf), vi (fn1 p4 G1 w_sf), .unset, .unset] [(.int 0)])) rfl (hb hby at_39) rfl (by decide) (cap := 0) (by decide) (by decide) (by decide) (by decide)
    obtain ⟨b6, g6⟩ : ∃ z, z = (h0).size := ⟨_, rfl⟩
    rw [← g6] at A6 st6
    have gb6 : n0 ≤ b6 := Nat.le_trans (Nat.le_trans (Nat.le_of_eq O.1.symm) O.2.1) (Nat.le_of_eq g6.symm)
    have sb6 : h0.size ≤ b6 := Nat.le_trans (Keep.refl h0 []).1 (Nat.le_of_eq g6.symm)
    have V6 : Arv Z h6 b6 k6 .char (0 : Int32) [] (.int 0) := (Arv.new A6 (by decide)).pad (pad_rep [] (.int 0) 0)
    have Sb6 : Safe Z EL0 _ h6 b6 := Safe.ext E6 (CHr.refl hCH).1 (Safe.new (Nat.le_of_eq g6.symm))
    refine gb (mkF m 41 #[vi p0, vi p1, vi p2, vi p3, vi p4, vi (nT p0), vi (fn1 p1 G1 w_sf), vi (fn1 p2 G1 w_sf), vi (fn1 p3 G1 w_sf), vi (fn1 p4 G1 w_sf), .unset, .unset] [(.ref b6)]) st6 ?_
    have Sy7 := CHr.ext E6 (CHr.refl hCH).1
    have CH7 := CHr.trans (CHr.refl hCH) Sy7
    refine gb (mkF m 43 #[vi p0, vi p1, vi p2, vi p3, vi p4, vi (nT p0), vi (fn1 p1 G1 w_sf), vi (fn1 p2 G1 w_sf), vi (fn1 p3 G1 w_sf), vi (fn1 p4 G1 w_sf), vr b6, .unset] []) (fun _ k => XS.astore X6.here hx rfl (hb hby at_41) rfl rfl (l' := #[vi p0, vi p1, vi p2, vi p3, vi p4, vi (nT p0), vi (fn1 p1 G1 w_sf), vi (fn1 p2 G1 w_sf), vi (fn1 p3 G1 w_sf), vi (fn1 p4 G1 w_sf), vr b6, .unset]) rfl k) ?_
    refine gb (mkF m 143 #[vi p0, vi p1, vi p2, vi p3, vi p4, vi (nT p0), vi (fn1 p1 G1 w_sf), vi (fn1 p2 G1 w_sf), vi (fn1 p3 G1 w_sf), vi (fn1 p4 G1 w_sf), vr b6, .unset] []) (fun _ k => XS.goto X6.here hx rfl (pc0 := 43) (pc' := 143) rfl (hb hby at_43) (by decide) (by decide) k) ?_
    refine gb (mkF m 145 #[vi p0, vi p1, vi p2, vi p3, vi p4, vi (nT p0), vi (fn1 p1 G1 w_sf), vi (fn1 p2 G1 w_sf), vi (fn1 p3 G1 w_sf), vi (fn1 p4 G1 w_sf), vr b6, .unset] [(.int (nT p0))]) (fun _ k => XS.iload X6.here hx rfl (hb hby at_143) rfl k) ?_
    refine gb (mkF m 146 #[vi p0, vi p1, vi p2, vi p3, vi p4, vi (nT p0), vi (fn1 p1 G1 w_sf), vi (fn1 p2 G1 w_sf), vi (fn1 p3 G1 w_sf), vi (fn1 p4 G1 w_sf), vr b6, .unset] [(.int 1), (.int (nT p0))]) (fun _ k => XS.iconst X6.here hx rfl (hb hby at_145) k) ?_
    refine gb (mkF m 157 #[vi p0, vi p1, vi p2, vi p3, vi p4, vi (nT p0), vi (fn1 p1 G1 w_sf), vi (fn1 p2 G1 w_sf), vi (fn1 p3 G1 w_sf), vi (fn1 p4 G1 w_sf), vr b6, .unset] []) (fun _ k => XS.icmpYes X6.here hx rfl (pc0 := 146) (pc' := 157) rfl (hb hby at_146) rfl (tlt (by rw [show (nT p0) = (0 : Int32) from hf5]; decide)).1 (by decide) (by decide) k) ?_
    refine gb (mkF m 159 #[vi p0, vi p1, vi p2, vi p3, vi p4, vi (nT p0), vi (fn1 p1 G1 w_sf), vi (fn1 p2 G1 w_sf), vi (fn1 p3 G1 w_sf), vi (fn1 p4 G1 w_sf), vr b6, .unset] [(.int (nT p0))]) (fun _ k => XS.iload X6.here hx rfl (hb hby at_157) rfl k) ?_
    refine gb (mkF m 160 #[vi p0, vi p1, vi p2, vi p3, vi p4, vi (nT p0), vi (fn1 p1 G1 w_sf), vi (fn1 p2 G1 w_sf), vi (fn1 p3 G1 w_sf), vi (fn1 p4 G1 w_sf), vr b6, .unset] [(.int 2), (.int (nT p0))]) (fun _ k => XS.iconst X6.here hx rfl (hb hby at_159) k) ?_
    refine gb (mkF m 171 #[vi p0, vi p1, vi p2, vi p3, vi p4, vi (nT p0), vi (fn1 p1 G1 w_sf), vi (fn1 p2 G1 w_sf), vi (fn1 p3 G1 w_sf), vi (fn1 p4 G1 w_sf), vr b6, .unset] []) (fun _ k => XS.icmpYes X6.here hx rfl (pc0 := 160) (pc' := 171) rfl (hb hby at_160) rfl (tlt (by rw [show (nT p0) = (0 : Int32) from hf5]; decide)).1 (by decide) (by decide) k) ?_
    refine gb (mkF m 173 #[vi p0, vi p1, vi p2, vi p3, vi p4, vi (nT p0), vi (fn1 p1 G1 w_sf), vi (fn1 p2 G1 w_sf), vi (fn1 p3 G1 w_sf), vi (fn1 p4 G1 w_sf), vr b6, .unset] [(.int (nT p0))]) (fun _ k => XS.iload X6.here hx rfl (hb hby at_171) rfl k) ?_
    refine gb (mkF m 174 #[vi p0, vi p1, vi p2, vi p3, vi p4, vi (nT p0), vi (fn1 p1 G1 w_sf), vi (fn1 p2 G1 w_sf), vi (fn1 p3 G1 w_sf), vi (fn1 p4 G1 w_sf), vr b6, .unset] [(.int 3), (.int (nT p0))]) (fun _ k => XS.iconst X6.here hx rfl (hb hby at_173) k) ?_
    refine gb (mkF m 185 #[vi p0, vi p1, vi p2, vi p3, vi p4, vi (nT p0), vi (fn1 p1 G1 w_sf), vi (fn1 p2 G1 w_sf), vi (fn1 p3 G1 w_sf), vi (fn1 p4 G1 w_sf), vr b6, .unset] []) (fun _ k => XS.icmpYes X6.here hx rfl (pc0 := 174) (pc' := 185) rfl (hb hby at_174) rfl (tlt (by rw [show (nT p0) = (0 : Int32) from hf5]; decide)).1 (by decide) (by decide) k) ?_
    refine gb (mkF m 187 #[vi p0, vi p1, vi p2, vi p3, vi p4, vi (nT p0), vi (fn1 p1 G1 w_sf), vi (fn1 p2 G1 w_sf), vi (fn1 p3 G1 w_sf), vi (fn1 p4 G1 w_sf), vr b6, .unset] [(.int (nT p0))]) (fun _ k => XS.iload X6.here hx rfl (hb hby at_185) rfl k) ?_
    refine gb (mkF m 188 #[vi p0, vi p1, vi p2, vi p3, vi p4, vi (nT p0), vi (fn1 p1 G1 w_sf), vi (fn1 p2 G1 w_sf), vi (fn1 p3 G1 w_sf), vi (fn1 p4 G1 w_sf), vr b6, .unset] [(.int 4), (.int (nT p0))]) (fun _ k => XS.iconst X6.here hx rfl (hb hby at_187) k) ?_
    refine gb (mkF m 199 #[vi p0, vi p1, vi p2, vi p3, vi p4, vi (nT p0), vi (fn1 p1 G1 w_sf), vi (fn1 p2 G1 w_sf), vi (fn1 p3 G1 w_sf), vi (fn1 p4 G1 w_sf), vr b6, .unset] []) (fun _ k => XS.icmpYes X6.here hx rfl (pc0 := 188) (pc' := 199) rfl (hb hby at_188) rfl (tlt (by rw [show (nT p0) = (0 : Int32) from hf5]; decide)).1 (by decide) (by decide) k) ?_
    refine gb (mkF m 200 #[vi p0, vi p1, vi p2, vi p3, vi p4, vi (nT p0), vi (fn1 p1 G1 w_sf), vi (fn1 p2 G1 w_sf), vi (fn1 p3 G1 w_sf), vi (fn1 p4 G1 w_sf), vr b6, .unset] [(.int 1)]) (fun _ k => XS.iconst X6.here hx rfl (hb hby at_199) k) ?_
    refine gb (mkF m 204 #[vi p0, vi p1, vi p2, vi p3, vi p4, vi (nT p0), vi (fn1 p1 G1 w_sf), vi (fn1 p2 G1 w_sf), vi (fn1 p3 G1 w_sf), vi (fn1 p4 G1 w_sf), vr b6, .unset] [(.int 1)]) (fun _ k => XS.goto X6.here hx rfl (pc0 := 200) (pc' := 204) rfl (hb hby at_200) (by decide) (by decide) k) ?_
    refine gb (mkF m 206 #[vi p0, vi p1, vi p2, vi p3, vi p4, vi (nT p0), vi (fn1 p1 G1 w_sf), vi (fn1 p2 G1 w_sf), vi (fn1 p3 G1 w_sf), vi (fn1 p4 G1 w_sf), vr b6, vi 1] []) (fun _ k => XS.istore X6.here hx rfl (hb hby at_204) rfl (l' := #[vi p0, vi p1, vi p2, vi p3, vi p4, vi (nT p0), vi (fn1 p1 G1 w_sf), vi (fn1 p2 G1 w_sf), vi (fn1 p3 G1 w_sf), vi (fn1 p4 G1 w_sf), vr b6, vi 1]) rfl k) ?_
    have O9 := (O.ext E6)
    have K10 := ((Keep.refl h0 []).ext E6)
    obtain ⟨T8, h8, X8, e8, E8, A8, D8, -, st8⟩ := newO X6 hx hZ hown (hW hw 6 rfl) (hW hw 7 rfl) (hW hw 8 rfl) e6 (g := (mkF m 206 #[vi p0, vi p1, vi p2, vi p3, vi p4, vi (nT p0), vi (fn1 p1 G1 w_sf), vi (fn1 p2 G1 w_sf), vi (fn1 p3 G1 w_sf), vi (fn1 p4 G1 w_sf), vr b6, vi 1] [])) rfl (hb hby at_206) (by decide) (by decide)
    obtain ⟨b8, g8⟩ : ∃ z, z = (h6).size := ⟨_, rfl⟩
    rw [← g8] at A8 D8 st8
    have gb8 : n0 ≤ b8 := Nat.le_trans (Nat.le_trans (Nat.le_of_eq O9.1.symm) O9.2.1) (Nat.le_of_eq g8.symm)
    have sb8 : h0.size ≤ b8 := Nat.le_trans K10.1 (Nat.le_of_eq g8.symm)
    have ne8_0 : b6 ≠ b8 := Nat.ne_of_lt (Nat.lt_of_lt_of_le V6.lt (Nat.le_of_eq g8.symm))
    have D8_value : Fld Z h8 b8 "java/lang/String" "value" "[B" .null := D8 (Or.inr (hW hw 21 rfl)) (ty := (.array .byte)) (by decide)
    have D8_coder : Fld Z h8 b8 "java/lang/String" "coder" "B" (.int 0) := D8 (Or.inr (hW hw 22 rfl)) (ty := .byte) (by decide)
    have Sb8 : Safe Z EL0 _ h8 b8 := Safe.ext E8 CH7.1 (Safe.new (Nat.le_of_eq g8.symm))
    refine gb (mkF m 209 #[vi p0, vi p1, vi p2, vi p3, vi p4, vi (nT p0), vi (fn1 p1 G1 w_sf), vi (fn1 p2 G1 w_sf), vi (fn1 p3 G1 w_sf), vi (fn1 p4 G1 w_sf), vr b6, vi 1] [(.ref b8)]) st8 ?_
    have Sy11 := CHr.ext E8 CH7.1
    have CH11 := CHr.trans CH7 Sy11
    have Sf11_b6 := Sy11.safe V6.lt Sb6
    refine gb (mkF m 210 #[vi p0, vi p1, vi p2, vi p3, vi p4, vi (nT p0), vi (fn1 p1 G1 w_sf), vi (fn1 p2 G1 w_sf), vi (fn1 p3 G1 w_sf), vi (fn1 p4 G1 w_sf), vr b6, vi 1] [(.ref b8), (.ref b8)]) (fun _ k => XS.dup X8.here hx rfl (hb hby at_209) rfl rfl k) ?_
    refine gb (mkF m 212 #[vi p0, vi p1, vi p2, vi p3, vi p4, vi (nT p0), vi (fn1 p1 G1 w_sf), vi (fn1 p2 G1 w_sf), vi (fn1 p3 G1 w_sf), vi (fn1 p4 G1 w_sf), vr b6, vi 1] [(.ref b6), (.ref b8), (.ref b8)]) (fun _ k => XS.aload X8.here hx rfl (hb hby at_210) rfl rfl k) ?_
    have f13 := (Arv.ext V6 E8)
    have O14 := (O9.ext E8)
    obtain ⟨_, _, ⟨T12, L12, k12, n12⟩, -, X12, hS12, hg12, ⟨Lc12, hQ12, l12, y12, z12, Sc12⟩, st12⟩ := X8.specialBackS hx (y := mq19) rfl hown (mvT hZ (hW hw 9 rfl)) (mvT hZ (hW hw 10 rfl)) (mvT hZ (hW hw 11 rfl)) (by decide) (backOfSX (W := 1) (rm2k0 l Z a0' hw [] b8 b6 k6 G1 w_sf h8 n0 O14 W A8 D8_value D8_coder gb8 f13) hZ (hW hw 11 rfl) (hW hw 8 rfl) (by decide) (by decide) (hEL0 hw) CH11.1 (allS ⟨A8.lt, Sb8⟩ all0)) (g := (mkF m 212 #[vi p0, vi p1, vi p2, vi p3, vi p4, vi (nT p0), vi (fn1 p1 G1 w_sf), vi (fn1 p2 G1 w_sf), vi (fn1 p3 G1 w_sf), vi (fn1 p4 G1 w_sf), vr b6, vi 1] [(.ref b6), (.ref b8), (.ref b8)])) rfl (by rw [hml]; rfl) (Steps.refl _) (a := b8) (argsL := [(.ref b6)]) (rest := [(.ref b8)]) (lenOf pd318 rfl) rfl (Nat.le_of_eq rfl) (hb hby at_212) (fun _ _ => ⟨rfl, e8, (by decide : 2 + 4 ≤ _), (by decide : 4 + 8 ≤ _)⟩)
    dsimp only [Pt.U, Pt.locs, Pt.cells, Pt.slots] at X12 l12 y12 z12 st12 hQ12 Sc12
    subst l12 y12 z12
    have sz15 := (Nat.le_trans (Nat.le_trans (Nat.le_refl h0.size) E6.1) E8.1)
    obtain ⟨X12, hS, hZ, hown⟩ := rebS hS (by rw [e8]; exact sz15) X12 hS12 hg12 hZ hown
    obtain ⟨b_12, kb_12, rfl, N12q, Kc12, fc12_0, fc12_1, fc12_2⟩ := hQ12
    have N12 := Fr.app N4 N12q
    refine gb (mkF m 215 #[vi p0, vi p1, vi p2, vi p3, vi p4, vi (nT p0), vi (fn1 p1 G1 w_sf), vi (fn1 p2 G1 w_sf), vi (fn1 p3 G1 w_sf), vi (fn1 p4 G1 w_sf), vr b6, vi 1] [(.ref b8)]) (fun _ k => st12.trans k) ?_
    have CH16 := CHr.trans CH11 Sc12
    have Sf16_b6 := Sc12.safe (Nat.lt_of_lt_of_le V6.lt Sy11.2.1) Sf11_b6
    have Sf16_b8 := Sc12.safe A8.lt Sb8
    have f18 := (Exa.keep A8 Kc12)
    have O19 := (O14.keep Kc12 (allS gb8 all0))
    obtain ⟨_, _, ⟨T17, L17, k17, n17⟩, -, X17, ⟨Lc17, hQ17, l17, y17, z17⟩, st17⟩ := callS X12 hx (y := mq20) hown (mvT hZ (hW hw 27 rfl)) (mvT hZ (hW hw 28 rfl)) (mvT hZ (hW hw 29 rfl)) (mvT hZ (hW hw 30 rfl)) (by decide) (backOf (W := 0) (rm50A l Z a0' hw [] b8 b_12 kb_12 G1 w_sf T12.heap n0 O19 W f18 fc12_0 fc12_1 fc12_2) hZ (hW hw 30 rfl) (hW hw 29 rfl) (by decide) (by decide)) (g := (mkF m 215 #[vi p0, vi p1, vi p2, vi p3, vi p4, vi (nT p0), vi (fn1 p1 G1 w_sf), vi (fn1 p2 G1 w_sf), vi (fn1 p3 G1 w_sf), vi (fn1 p4 G1 w_sf), vr b6, vi 1] [(.ref b8)])) rfl (by rw [hml]; rfl) (argsL := [(.ref b8)]) (rest := []) (lenOf pd319 rfl) rfl (Nat.le_of_eq rfl) (hb hby at_215) (fun _ _ => ⟨rfl, rfl, (by decide : 6 + 0 ≤ _), (by decide : 12 + 0 ≤ _)⟩)
    dsimp only [Pt.U, Pt.locs, Pt.cells, Pt.slots] at X17 l17 y17 z17 st17 hQ17
    subst l17 y17 z17
    obtain ⟨rfl, N17q, e17⟩ := hQ17
    have N17 := Fr.app N12 N17q
    refine gb (mkF m 218 #[vi p0, vi p1, vi p2, vi p3, vi p4, vi (nT p0), vi (fn1 p1 G1 w_sf), vi (fn1 p2 G1 w_sf), vi (fn1 p3 G1 w_sf), vi (fn1 p4 G1 w_sf), vr b6, vi 1] [(.int (fn50A  G1 w_sf))]) st17 ?_
    refine gb (mkF m 220 #[vi p0, vi p1, vi p2, vi p3, vi p4, vi (nT p0), vi (fn1 p1 G1 w_sf), vi (fn1 p2 G1 w_sf), vi (fn1 p3 G1 w_sf), vi (fn1 p4 G1 w_sf), vr b6, vi 1] [(.int 1), (.int (fn50A  G1 w_sf))]) (fun _ k => XS.iload X17.here hx rfl (hb hby at_218) rfl k) ?_
    have J20 : ∀ (T' : State) (lc : List Loc) (X' : Stand p l e room_1 (s.setVm T12.vm) m #[(.int p0), (.int p1), (.int p2), (.int p3), (.int p4)] below meth c T' lc 6 12) (eT : T'.heap = T12.heap) (N' : Fr n0 lc) (zj20_0 : Int32) (hz20_0 : zj20_0 = (fj0_0 p0 p1 p2 p3 p4 G1 w_sf)), Gl p e below (PosW 24 1152 (Q0 Z p0 p1 p2 p3 p4 G1 w_sf h0 n0) s) T' (mkF m 228 #[vi p0, vi p1, vi p2, vi p3, vi p4, vi (nT p0), vi (fn1 p1 G1 w_sf), vi (fn1 p2 G1 w_sf), vi (fn1 p3 G1 w_sf), vi (fn1 p4 G1 w_sf), vr b6, vi 1] [(.int zj20_0)]) := by
      intro T' lc X' eT N' zj20_0 hz20_0
      subst hz20_0
      exact Gl.outNW X' hS (by rw [eT]; exact (Nat.le_refl _)) hx hk (t := .boolean) Bd.returns (by simp) (hb hby at_228) ⟨(congrArg (fun z => some (Value.int z)) (show nar .boolean (fj0_0 p0 p1 p2 p3 p4 G1 w_sf) = fn0 p0 p1 p2 p3 p4 G1 w_sf by unfold fn0; rw [if_pos hf5]; try rfl)), N'⟩ (by decide) (by decide)
    by_cases hf21 : (fn50A  G1 w_sf) = (1 : Int32)
    · refine gb (mkF m 223 #[vi p0, vi p1, vi p2, vi p3, vi p4, vi (nT p0), vi (fn1 p1 G1 w_sf), vi (fn1 p2 G1 w_sf), vi (fn1 p3 G1 w_sf), vi (fn1 p4 G1 w_sf), vr b6, vi 1] []) (fun _ k => XS.icmpNo X17.here hx rfl (hb hby at_220) rfl (teq hf21).2 k) ?_
      refine gb (mkF m 224 #[vi p0, vi p1, vi p2, vi p3, vi p4, vi (nT p0), vi (fn1 p1 G1 w_sf), vi (fn1 p2 G1 w_sf), vi (fn1 p3 G1 w_sf), vi (fn1 p4 G1 w_sf), vr b6, vi 1] [(.int 1)]) (fun _ k => XS.iconst X17.here hx rfl (hb hby at_223) k) ?_
      refine gb (mkF m 228 #[vi p0, vi p1, vi p2, vi p3, vi p4, vi (nT p0), vi (fn1 p1 G1 w_sf), vi (fn1 p2 G1 w_sf), vi (fn1 p3 G1 w_sf), vi (fn1 p4 G1 w_sf), vr b6, vi 1] [(.int 1)]) (fun _ k => XS.goto X17.here hx rfl (pc0 := 224) (pc' := 228) rfl (hb hby at_224) (by decide) (by decide) k) ?_
      exact J20 _ _ X17 e17 N17 (1 : Int32) (show (1 : Int32) = (fj0_0 p0 p1 p2 p3 p4 G1 w_sf) by unfold fj0_0; rw [if_pos hf21]; try rfl)
    · refine gb (mkF m 227 #[vi p0, vi p1, vi p2, vi p3, vi p4, vi (nT p0), vi (fn1 p1 G1 w_sf), vi (fn1 p2 G1 w_sf), vi (fn1 p3 G1 w_sf), vi (fn1 p4 G1 w_sf), vr b6, vi 1] []) (fun _ k => XS.icmpYes X17.here hx rfl (pc0 := 220) (pc' := 227) rfl (hb hby at_220) rfl (feq hf21).2 (by decide) (by decide) k) ?_
      refine gb (mkF m 228 #[vi p0, vi p1, vi p2, vi p3, vi p4, vi (nT p0), vi (fn1 p1 G1 w_sf), vi (fn1 p2 G1 w_sf), vi (fn1 p3 G1 w_sf), vi (fn1 p4 G1 w_sf), vr b6, vi 1] [(.int 0)]) (fun _ k => XS.iconst X17.here hx rfl (hb hby at_227) k) ?_
      exact J20 _ _ X17 e17 N17 (0 : Int32) (show (0 : Int32) = (fj0_0 p0 p1 p2 p3 p4 G1 w_sf) by unfold fj0_0; rw [if_neg hf21]; try rfl)
  · refine gb (mkF m 46 #[vi p0, vi p1, vi p2, vi p3, vi p4, vi (nT p0), vi (fn1 p1 G1 w_sf), vi (fn1 p2 G1 w_sf), vi (fn1 p3 G1 w_sf), vi (fn1 p4 G1 w_sf), .unset, .unset] []) (fun _ k => XS.ifYes X4.here hx rfl (pc0 := 35) (pc' := 46) rfl (hb hby at_35) rfl ((if0 _ _).trans (feq hf5).2) (by decide) (by decide) k) ?_
    refine gb (mkF m 48 #[vi p0, vi p1, vi p2, vi p3, vi p4, vi (nT p0), vi (fn1 p1 G1 w_sf), vi (fn1 p2 G1 w_sf), vi (fn1 p3 G1 w_sf), vi (fn1 p4 G1 w_sf), .unset, .unset] [(.int (nT p0))]) (fun _ k => XS.iload X4.here hx rfl (hb hby at_46) rfl k) ?_
    refine gb (mkF m 49 #[vi p0, vi p1, vi p2, vi p3, vi p4, vi (nT p0), vi (fn1 p1 G1 w_sf), vi (fn1 p2 G1 w_sf), vi (fn1 p3 G1 w_sf), vi (fn1 p4 G1 w_sf), .unset, .unset] [(.int 1), (.int (nT p0))]) (fun _ k => XS.iconst X4.here hx rfl (hb hby at_48) k) ?_
    by_cases hf22 : (nT p0) = (1 : Int32)
    · refine gb (mkF m 52 #[vi p0, vi p1, vi p2, vi p3, vi p4, vi (nT p0), vi (fn1 p1 G1 w_sf), vi (fn1 p2 G1 w_sf), vi (fn1 p3 G1 w_sf), vi (fn1 p4 G1 w_sf), .unset, .unset] []) (fun _ k => XS.icmpNo X4.here hx rfl (hb hby at_49) rfl (teq hf22).2 k) ?_
      refine gb (mkF m 53 #[vi p0, vi p1, vi p2, vi p3, vi p4, vi (nT p0), vi (fn1 p1 G1 w_sf), vi (fn1 p2 G1 w_sf), vi (fn1 p3 G1 w_sf), vi (fn1 p4 G1 w_sf), .unset, .unset] [(.int 1)]) (fun _ k => XS.iconst X4.here hx rfl (hb hby at_52) k) ?_
      obtain ⟨T23, h23, k23, X23, e23, E23, A23, st23⟩ := newP X4 hx hZ (hW hw 5 rfl) e4 (g := (mkF m 53 #[vi p0, vi p1, vi p2, vi p3, vi p4, vi (nT p0), vi (fn1 p1 G1 w_sf), vi (fn1 p2 G1 w_sf), vi (fn1 p3 G1 w_sf), vi (fn1 p4 G1 w_sf), .unset, .unset] [(.int 1)])) rfl (hb hby at_53) rfl (by decide) (cap := 1) (by decide) (by decide) (by decide) (by decide)
      obtain ⟨b23, g23⟩ : ∃ z, z = (h0).size := ⟨_, rfl⟩
      rw [← g23] at A23 st23
      have gb23 : n0 ≤ b23 := Nat.le_trans (Nat.le_trans (Nat.le_of_eq O.1.symm) O.2.1) (Nat.le_of_eq g23.symm)
      have sb23 : h0.size ≤ b23 := Nat.le_trans (Keep.refl h0 []).1 (Nat.le_of_eq g23.symm)
      have V23 : Arv Z h23 b23 k23 .char (1 : Int32) [(.int 0)] (.int 0) := (Arv.new A23 (by decide)).pad (pad_rep [] (.int 0) 1)
      refine gb (mkF m 55 #[vi p0, vi p1, vi p2, vi p3, vi p4, vi (nT p0), vi (fn1 p1 G1 w_sf), vi (fn1 p2 G1 w_sf), vi (fn1 p3 G1 w_sf), vi (fn1 p4 G1 w_sf), .unset, .unset] [(.ref b23)]) st23 ?_
      refine gb (mkF m 56 #[vi p0, vi p1, vi p2, vi p3, vi p4, vi (nT p0), vi (fn1 p1 G1 w_sf), vi (fn1 p2 G1 w_sf), vi (fn1 p3 G1 w_sf), vi (fn1 p4 G1 w_sf), .unset, .unset] [(.ref b23), (.ref b23)]) (fun _ k => XS.dup X23.here hx rfl (hb hby at_55) rfl rfl k) ?_
      refine gb (mkF m 57 #[vi p0, vi p1, vi p2, vi p3, vi p4, vi (nT p0), vi (fn1 p1 G1 w_sf), vi (fn1 p2 G1 w_sf), vi (fn1 p3 G1 w_sf), vi (fn1 p4 G1 w_sf), .unset, .unset] [(.int 0), (.ref b23), (.ref b23)]) (fun _ k => XS.iconst X23.here hx rfl (hb hby at_56) k) ?_
      refine gb (mkF m 59 #[vi p0, vi p1, vi p2, vi p3, vi p4, vi (nT p0), vi (fn1 p1 G1 w_sf), vi (fn1 p2 G1 w_sf), vi (fn1 p3 G1 w_sf), vi (fn1 p4 G1 w_sf), .unset, .unset] [(.int (fn1 p1 G1 w_sf)), (.int 0), (.ref b23), (.ref b23)]) (fun _ k => XS.iload X23.here hx rfl (hb hby at_57) rfl k) ?_
      obtain ⟨cl24, Ar24, qa24, Sa24, Na24, Ha24, Ga24⟩ := id V23
      have hin25 : ¬ ((0 : Int32) < 0 ∨ cl24.slots.size ≤ ((0 : Int32)).toNatClampNeg) := inb_of Sa24 ⟨by decide, by decide⟩
      obtain ⟨T25, h25, X25, e25, W25, st25⟩ := stC X23 hx hZ e23 Ar24 (j := (0 : Int32)) hin25 (g := (mkF m 59 #[vi p0, vi p1, vi p2, vi p3, vi p4, vi (nT p0), vi (fn1 p1 G1 w_sf), vi (fn1 p2 G1 w_sf), vi (fn1 p3 G1 w_sf), vi (fn1 p4 G1 w_sf), .unset, .unset] [(.int (fn1 p1 G1 w_sf)), (.int 0), (.ref b23), (.ref b23)])) rfl rfl (hb hby at_59)
      have V25 : Arv Z h25 b23 k23 .char (1 : Int32) [(.int (nar .char (fn1 p1 G1 w_sf)))] (.int 0) := Arv.set Ar24 qa24 Sa24 Na24 Ha24 Ga24 (fits_nar_char _) W25 0 rfl (Nat.le_of_ble_eq_true rfl)
      have N25 := Fr.snoc X25 N4 gb23
      refine gb (mkF m 60 #[vi p0, vi p1, vi p2, vi p3, vi p4, vi (nT p0), vi (fn1 p1 G1 w_sf), vi (fn1 p2 G1 w_sf), vi (fn1 p3 G1 w_sf), vi (fn1 p4 G1 w_sf), .unset, .unset] [(.ref b23)]) st25 ?_
      refine gb (mkF m 62 #[vi p0, vi p1, vi p2, vi p3, vi p4, vi (nT p0), vi (fn1 p1 G1 w_sf), vi (fn1 p2 G1 w_sf), vi (fn1 p3 G1 w_sf), vi (fn1 p4 G1 w_sf), vr b23, .unset] []) (fun _ k => XS.astore X25.here hx rfl (hb hby at_60) rfl rfl (l' := #[vi p0, vi p1, vi p2, vi p3, vi p4, vi (nT p0), vi (fn1 p1 G1 w_sf), vi (fn1 p2 G1 w_sf), vi (fn1 p3 G1 w_sf), vi (fn1 p4 G1 w_sf), vr b23, .unset]) rfl k) ?_
      refine gb (mkF m 143 #[vi p0, vi p1, vi p2, vi p3, vi p4, vi (nT p0), vi (fn1 p1 G1 w_sf), vi (fn1 p2 G1 w_sf), vi (fn1 p3 G1 w_sf), vi (fn1 p4 G1 w_sf), vr b23, .unset] []) (fun _ k => XS.goto X25.here hx rfl (pc0 := 62) (pc' := 143) rfl (hb hby at_62) (by decide) (by decide) k) ?_
      refine gb (mkF m 145 #[vi p0, vi p1, vi p2, vi p3, vi p4, vi (nT p0), vi (fn1 p1 G1 w_sf), vi (fn1 p2 G1 w_sf), vi (fn1 p3 G1 w_sf), vi (fn1 p4 G1 w_sf), vr b23, .unset] [(.int (nT p0))]) (fun _ k => XS.iload X25.here hx rfl (hb hby at_143) rfl k) ?_
      refine gb (mkF m 146 #[vi p0, vi p1, vi p2, vi p3, vi p4, vi (nT p0), vi (fn1 p1 G1 w_sf), vi (fn1 p2 G1 w_sf), vi (fn1 p3 G1 w_sf), vi (fn1 p4 G1 w_sf), vr b23, .unset] [(.int 1), (.int (nT p0))]) (fun _ k => XS.iconst X25.here hx rfl (hb hby at_145) k) ?_
      have J26 : ∀ (T' : State) (lc : List Loc) (X' : Stand p l e room_1 (s.setVm s.vm) m #[(.int p0), (.int p1), (.int p2), (.int p3), (.int p4)] below meth c T' lc 1 1) (eT : T'.heap = h25) (N' : Fr n0 lc) (zj26_0 : Int32) (hz26_0 : zj26_0 = (fj0_1 p0 p1 p2 p3 p4 G1 w_sf)), Gl p e below (PosW 24 1152 (Q0 Z p0 p1 p2 p3 p4 G1 w_sf h0 n0) s) T' (mkF m 204 #[vi p0, vi p1, vi p2, vi p3, vi p4, vi (nT p0), vi (fn1 p1 G1 w_sf), vi (fn1 p2 G1 w_sf), vi (fn1 p3 G1 w_sf), vi (fn1 p4 G1 w_sf), vr b23, .unset] [(.int zj26_0)]) := by
        intro T' lc X' eT N' zj26_0 hz26_0
        subst hz26_0
        refine gb (mkF m 206 #[vi p0, vi p1, vi p2, vi p3, vi p4, vi (nT p0), vi (fn1 p1 G1 w_sf), vi (fn1 p2 G1 w_sf), vi (fn1 p3 G1 w_sf), vi (fn1 p4 G1 w_sf), vr b23, vi (fj0_1 p0 p1 p2 p3 p4 G1 w_sf)] []) (fun _ k => XS.istore X'.here hx rfl (hb hby at_204) rfl (l' := #[vi p0, vi p1, vi p2, vi p3, vi p4, vi (nT p0), vi (fn1 p1 G1 w_sf), vi (fn1 p2 G1 w_sf), vi (fn1 p3 G1 w_sf), vi (fn1 p4 G1 w_sf), vr b23, vi (fj0_1 p0 p1 p2 p3 p4 G1 w_sf)]) rfl k) ?_
        have O28 := ((O.ext E23).wr W25 gb23)
        have K29 := (((Keep.refl h0 []).ext E23).wr W25 (Or.inr sb23))
        obtain ⟨T27, h27, X27, e27, E27, A27, D27, -, st27⟩ := newO X' hx hZ hown (hW hw 6 rfl) (hW hw 7 rfl) (hW hw 8 rfl) eT (g := (mkF m 206 #[vi p0, vi p1, vi p2, vi p3, vi p4, vi (nT p0), vi (fn1 p1 G1 w_sf), vi (fn1 p2 G1 w_sf), vi (fn1 p3 G1 w_sf), vi (fn1 p4 G1 w_sf), vr b23, vi (fj0_1 p0 p1 p2 p3 p4 G1 w_sf)] [])) rfl (hb hby at_206) (by decide) (by decide)
        obtain ⟨b27, g27⟩ : ∃ z, z = (h25).size := ⟨_, rfl⟩
        rw [← g27] at A27 D27 st27
        have gb27 : n0 ≤ b27 := Nat.le_trans (Nat.le_trans (Nat.le_of_eq O28.1.symm) O28.2.1) (Nat.le_of_eq g27.symm)
        have sb27 : h0.size ≤ b27 := Nat.le_trans K29.1 (Nat.le_of_eq g27.symm)
        have ne27_0 : b23 ≠ b27 := Nat.ne_of_lt (Nat.lt_of_lt_of_le V25.lt (Nat.le_of_eq g27.symm))
        have D27_value : Fld Z h27 b27 "java/lang/String" "value" "[B" .null := D27 (Or.inr (hW hw 21 rfl)) (ty := (.array .byte)) (by decide)
        have D27_coder : Fld Z h27 b27 "java/lang/String" "coder" "B" (.int 0) := D27 (Or.inr (hW hw 22 rfl)) (ty := .byte) (by decide)
        refine gb (mkF m 209 #[vi p0, vi p1, vi p2, vi p3, vi p4, vi (nT p0), vi (fn1 p1 G1 w_sf), vi (fn1 p2 G1 w_sf), vi (fn1 p3 G1 w_sf), vi (fn1 p4 G1 w_sf), vr b23, vi (fj0_1 p0 p1 p2 p3 p4 G1 w_sf)] [(.ref b27)]) st27 ?_
        refine gb (mkF m 210 #[vi p0, vi p1, vi p2, vi p3, vi p4, vi (nT p0), vi (fn1 p1 G1 w_sf), vi (fn1 p2 G1 w_sf), vi (fn1 p3 G1 w_sf), vi (fn1 p4 G1 w_sf), vr b23, vi (fj0_1 p0 p1 p2 p3 p4 G1 w_sf)] [(.ref b27), (.ref b27)]) (fun _ k => XS.dup X27.here hx rfl (hb hby at_209) rfl rfl k) ?_
        refine gb (mkF m 212 #[vi p0, vi p1, vi p2, vi p3, vi p4, vi (nT p0), vi (fn1 p1 G1 w_sf), vi (fn1 p2 G1 w_sf), vi (fn1 p3 G1 w_sf), vi (fn1 p4 G1 w_sf), vr b23, vi (fj0_1 p0 p1 p2 p3 p4 G1 w_sf)] [(.ref b23), (.ref b27), (.ref b27)]) (fun _ k => XS.aload X27.here hx rfl (hb hby at_210) rfl rfl k) ?_
        have f31 := (Arv.ext V25 E27)
        have O32 := (O28.ext E27)
        obtain ⟨_, _, ⟨T30, L30, k30, n30⟩, -, X30, ⟨Lc30, hQ30, l30, y30, z30⟩, st30⟩ := X27.specialBack hx (y := mq19) rfl hown (mvT hZ (hW hw 9 rfl)) (mvT hZ (hW hw 10 rfl)) (mvT hZ (hW hw 11 rfl)) (by decide) (backOf (W := 1) (rm2k1 l Z a0' hw [] b27 b23 k23 (nar .char (fn1 p1 G1 w_sf)) G1 w_sf h27 n0 O32 W A27 D27_value D27_coder gb27 f31 (nar_nar _)) hZ (hW hw 11 rfl) (hW hw 8 rfl) (by decide) (by decide)) (g := (mkF m 212 #[vi p0, vi p1, vi p2, vi p3, vi p4, vi (nT p0), vi (fn1 p1 G1 w_sf), vi (fn1 p2 G1 w_sf), vi (fn1 p3 G1 w_sf), vi (fn1 p4 G1 w_sf), vr b23, vi (fj0_1 p0 p1 p2 p3 p4 G1 w_sf)] [(.ref b23), (.ref b27), (.ref b27)])) rfl (by rw [hml]; rfl) (Steps.refl _) (a := b27) (argsL := [(.ref b23)]) (rest := [(.ref b27)]) (lenOf pd318 rfl) rfl (Nat.le_of_eq rfl) (hb hby at_212) (fun _ _ => ⟨rfl, e27, (by decide : 2 + 2 ≤ _), (by decide : 5 + 3 ≤ _)⟩)
        dsimp only [Pt.U, Pt.locs, Pt.cells, Pt.slots] at X30 l30 y30 z30 st30 hQ30
        subst l30 y30 z30
        obtain ⟨b_30, kb_30, rfl, N30q, Kc30, fc30_0, fc30_1⟩ := hQ30
        have N30 := Fr.app N' N30q
        refine gb (mkF m 215 #[vi p0, vi p1, vi p2, vi p3, vi p4, vi (nT p0), vi (fn1 p1 G1 w_sf), vi (fn1 p2 G1 w_sf), vi (fn1 p3 G1 w_sf), vi (fn1 p4 G1 w_sf), vr b23, vi (fj0_1 p0 p1 p2 p3 p4 G1 w_sf)] [(.ref b27)]) (fun _ k => st30.trans k) ?_
        rcases fc30_1 with ⟨hN, hcd, hV⟩ | ⟨hN, hcd, hV⟩
        · have f34 := (Exa.keep A27 Kc30)
          have O35 := (O32.keep Kc30 (allS gb27 all0))
          obtain ⟨_, _, ⟨T33, L33, k33, n33⟩, -, X33, ⟨Lc33, hQ33, l33, y33, z33⟩, st33⟩ := callS X30 hx (y := mq20) hown (mvT hZ (hW hw 27 rfl)) (mvT hZ (hW hw 28 rfl)) (mvT hZ (hW hw 29 rfl)) (mvT hZ (hW hw 30 rfl)) (by decide) (backOf (W := 0) (rm51A l Z a0' hw [] b27 b_30 kb_30 (bL (nar .char (fn1 p1 G1 w_sf))) G1 w_sf T30.heap n0 O35 W f34 fc30_0 hcd hV) hZ (hW hw 30 rfl) (hW hw 29 rfl) (by decide) (by decide)) (g := (mkF m 215 #[vi p0, vi p1, vi p2, vi p3, vi p4, vi (nT p0), vi (fn1 p1 G1 w_sf), vi (fn1 p2 G1 w_sf), vi (fn1 p3 G1 w_sf), vi (fn1 p4 G1 w_sf), vr b23, vi (fj0_1 p0 p1 p2 p3 p4 G1 w_sf)] [(.ref b27)])) rfl (by rw [hml]; rfl) (argsL := [(.ref b27)]) (rest := []) (lenOf pd319 rfl) rfl (Nat.le_of_eq rfl) (hb hby at_215) (fun _ _ => ⟨rfl, rfl, (by decide : 4 + 0 ≤ _), (by decide : 8 + 0 ≤ _)⟩)
          dsimp only [Pt.U, Pt.locs, Pt.cells, Pt.slots] at X33 l33 y33 z33 st33 hQ33
          subst l33 y33 z33
          obtain ⟨rfl, N33q, e33⟩ := hQ33
          have N33 := Fr.app N30 N33q
          refine gb (mkF m 218 #[vi p0, vi p1, vi p2, vi p3, vi p4, vi (nT p0), vi (fn1 p1 G1 w_sf), vi (fn1 p2 G1 w_sf), vi (fn1 p3 G1 w_sf), vi (fn1 p4 G1 w_sf), vr b23, vi (fj0_1 p0 p1 p2 p3 p4 G1 w_sf)] [(.int (fn51A (bL (nar .char (fn1 p1 G1 w_sf))) G1 w_sf))]) st33 ?_
          refine gb (mkF m 220 #[vi p0, vi p1, vi p2, vi p3, vi p4, vi (nT p0), vi (fn1 p1 G1 w_sf), vi (fn1 p2 G1 w_sf), vi (fn1 p3 G1 w_sf), vi (fn1 p4 G1 w_sf), vr b23, vi (fj0_1 p0 p1 p2 p3 p4 G1 w_sf)] [(.int (fj0_1 p0 p1 p2 p3 p4 G1 w_sf)), (.int (fn51A (bL (nar .char (fn1 p1 G1 w_sf))) G1 w_sf))]) (fun _ k => XS.iload X33.here hx rfl (hb hby at_218) rfl k) ?_
          have J36 : ∀ (T' : State) (lc : List Loc) (X' : Stand p l e room_1 (s.setVm s.vm) m #[(.int p0), (.int p1), (.int p2), (.int p3), (.int p4)] below meth c T' lc 4 8) (eT : T'.heap = T30.heap) (N' : Fr n0 lc) (zj36_0 : Int32) (hz36_0 : zj36_0 = (fj0_2 p0 p1 p2 p3 p4 G1 w_sf)), Gl p e below (PosW 24 1152 (Q0 Z p0 p1 p2 p3 p4 G1 w_sf h0 n0) s) T' (mkF m 228 #[vi p0, vi p1, vi p2, vi p3, vi p4, vi (nT p0), vi (fn1 p1 G1 w_sf), vi (fn1 p2 G1 w_sf), vi (fn1 p3 G1 w_sf), vi (fn1 p4 G1 w_sf), vr b23, vi (fj0_1 p0 p1 p2 p3 p4 G1 w_sf)] [(.int zj36_0)]) := by
            intro T' lc X' eT N' zj36_0 hz36_0
            subst hz36_0
            have sz37 := (Nat.le_trans (Nat.le_trans (Nat.le_trans (Nat.le_trans (Nat.le_refl h0.size) E23.1) (Nat.le_of_eq W25.size.symm)) E27.1) Kc30.1)
            exact Gl.outNW X' hS (by rw [eT]; exact sz37) hx hk (t := .boolean) Bd.returns (by simp) (hb hby at_228) ⟨(congrArg (fun z => some (Value.int z)) (show nar .boolean (fj0_2 p0 p1 p2 p3 p4 G1 w_sf) = fn0 p0 p1 p2 p3 p4 G1 w_sf by unfold fn0; rw [if_neg hf5, if_pos hf22, if_neg hN]; try rfl)), N'⟩ (by decide) (by decide)
          by_cases hf38 : (fn51A (bL (nar .char (fn1 p1 G1 w_sf))) G1 w_sf) = (fj0_1 p0 p1 p2 p3 p4 G1 w_sf)
          · refine gb (mkF m 223 #[vi p0, vi p1, vi p2, vi p3, vi p4, vi (nT p0), vi (fn1 p1 G1 w_sf), vi (fn1 p2 G1 w_sf), vi (fn1 p3 G1 w_sf), vi (fn1 p4 G1 w_sf), vr b23, vi (fj0_1 p0 p1 p2 p3 p4 G1 w_sf)] []) (fun _ k => XS.icmpNo X33.here hx rfl (hb hby at_220) rfl (teq hf38).2 k) ?_
            refine gb (mkF m 224 #[vi p0, vi p1, vi p2, vi p3, vi p4, vi (nT p0), vi (fn1 p1 G1 w_sf), vi (fn1 p2 G1 w_sf), vi (fn1 p3 G1 w_sf), vi (fn1 p4 G1 w_sf), vr b23, vi (fj0_1 p0 p1 p2 p3 p4 G1 w_sf)] [(.int 1)]) (fun _ k => XS.iconst X33.here hx rfl (hb hby at_223) k) ?_
            refine gb (mkF m 228 #[vi p0, vi p1, vi p2, vi p3, vi p4, vi (nT p0), vi (fn1 p1 G1 w_sf), vi (fn1 p2 G1 w_sf), vi (fn1 p3 G1 w_sf), vi (fn1 p4 G1 w_sf), vr b23, vi (fj0_1 p0 p1 p2 p3 p4 G1 w_sf)] [(.int 1)]) (fun _ k => XS.goto X33.here hx rfl (pc0 := 224) (pc' := 228) rfl (hb hby at_224) (by decide) (by decide) k) ?_
            exact J36 _ _ X33 e33 N33 (1 : Int32) (show (1 : Int32) = (fj0_2 p0 p1 p2 p3 p4 G1 w_sf) by unfold fj0_2; rw [if_pos hf38]; try rfl)
          · refine gb (mkF m 227 #[vi p0, vi p1, vi p2, vi p3, vi p4, vi (nT p0), vi (fn1 p1 G1 w_sf), vi (fn1 p2 G1 w_sf), vi (fn1 p3 G1 w_sf), vi (fn1 p4 G1 w_sf), vr b23, vi (fj0_1 p0 p1 p2 p3 p4 G1 w_sf)] []) (fun _ k => XS.icmpYes X33.here hx rfl (pc0 := 220) (pc' := 227) rfl (hb hby at_220) rfl (feq hf38).2 (by decide) (by decide) k) ?_
            refine gb (mkF m 228 #[vi p0, vi p1, vi p2, vi p3, vi p4, vi (nT p0), vi (fn1 p1 G1 w_sf), vi (fn1 p2 G1 w_sf), vi (fn1 p3 G1 w_sf), vi (fn1 p4 G1 w_sf), vr b23, vi (fj0_1 p0 p1 p2 p3 p4 G1 w_sf)] [(.int 0)]) (fun _ k => XS.iconst X33.here hx rfl (hb hby at_227) k) ?_
            exact J36 _ _ X33 e33 N33 (0 : Int32) (show (0 : Int32) = (fj0_2 p0 p1 p2 p3 p4 G1 w_sf) by unfold fj0_2; rw [if_neg hf38]; try rfl)
        · have f40 := (Exa.keep A27 Kc30)
          have O41 := (O32.keep Kc30 (allS gb27 all0))
          obtain ⟨_, _, ⟨T39, L39, k39, n39⟩, -, X39, ⟨Lc39, hQ39, l39, y39, z39⟩, st39⟩ := callS X30 hx (y := mq20) hown (mvT hZ (hW hw 27 rfl)) (mvT hZ (hW hw 28 rfl)) (mvT hZ (hW hw 29 rfl)) (mvT hZ (hW hw 30 rfl)) (by decide) (backOf (W := 0) (rm51U l Z a0' hw [] b27 b_30 kb_30 (bA (nar .char (fn1 p1 G1 w_sf))) (bB (nar .char (fn1 p1 G1 w_sf))) G1 w_sf T30.heap n0 O41 W f40 fc30_0 hcd hV) hZ (hW hw 30 rfl) (hW hw 29 rfl) (by decide) (by decide)) (g := (mkF m 215 #[vi p0, vi p1, vi p2, vi p3, vi p4, vi (nT p0), vi (fn1 p1 G1 w_sf), vi (fn1 p2 G1 w_sf), vi (fn1 p3 G1 w_sf), vi (fn1 p4 G1 w_sf), vr b23, vi (fj0_1 p0 p1 p2 p3 p4 G1 w_sf)] [(.ref b27)])) rfl (by rw [hml]; rfl) (argsL := [(.ref b27)]) (rest := []) (lenOf pd319 rfl) rfl (Nat.le_of_eq rfl) (hb hby at_215) (fun _ _ => ⟨rfl, rfl, (by decide : 4 + 0 ≤ _), (by decide : 8 + 0 ≤ _)⟩)
          dsimp only [Pt.U, Pt.locs, Pt.cells, Pt.slots] at X39 l39 y39 z39 st39 hQ39
          subst l39 y39 z39
          obtain ⟨rfl, N39q, e39⟩ := hQ39
          have N39 := Fr.app N30 N39q
          refine gb (mkF m 218 #[vi p0, vi p1, vi p2, vi p3, vi p4, vi (nT p0), vi (fn1 p1 G1 w_sf), vi (fn1 p2 G1 w_sf), vi (fn1 p3 G1 w_sf), vi (fn1 p4 G1 w_sf), vr b23, vi (fj0_1 p0 p1 p2 p3 p4 G1 w_sf)] [(.int (fn51U (bA (nar .char (fn1 p1 G1 w_sf))) (bB (nar .char (fn1 p1 G1 w_sf))) G1 w_sf))]) st39 ?_
          refine gb (mkF m 220 #[vi p0, vi p1, vi p2, vi p3, vi p4, vi (nT p0), vi (fn1 p1 G1 w_sf), vi (fn1 p2 G1 w_sf), vi (fn1 p3 G1 w_sf), vi (fn1 p4 G1 w_sf), vr b23, vi (fj0_1 p0 p1 p2 p3 p4 G1 w_sf)] [(.int (fj0_1 p0 p1 p2 p3 p4 G1 w_sf)), (.int (fn51U (bA (nar .char (fn1 p1 G1 w_sf))) (bB (nar .char (fn1 p1 G1 w_sf))) G1 w_sf))]) (fun _ k => XS.iload X39.here hx rfl (hb hby at_218) rfl k) ?_
          have J42 : ∀ (T' : State) (lc : List Loc) (X' : Stand p l e room_1 (s.setVm s.vm) m #[(.int p0), (.int p1), (.int p2), (.int p3), (.int p4)] below meth c T' lc 4 8) (eT : T'.heap = T30.heap) (N' : Fr n0 lc) (zj42_0 : Int32) (hz42_0 : zj42_0 = (fj0_3 p0 p1 p2 p3 p4 G1 w_sf)), Gl p e below (PosW 24 1152 (Q0 Z p0 p1 p2 p3 p4 G1 w_sf h0 n0) s) T' (mkF m 228 #[vi p0, vi p1, vi p2, vi p3, vi p4, vi (nT p0), vi (fn1 p1 G1 w_sf), vi (fn1 p2 G1 w_sf), vi (fn1 p3 G1 w_sf), vi (fn1 p4 G1 w_sf), vr b23, vi (fj0_1 p0 p1 p2 p3 p4 G1 w_sf)] [(.int zj42_0)]) := by
            intro T' lc X' eT N' zj42_0 hz42_0
            subst hz42_0
            have sz43 := (Nat.le_trans (Nat.le_trans (Nat.le_trans (Nat.le_trans (Nat.le_refl h0.size) E23.1) (Nat.le_of_eq W25.size.symm)) E27.1) Kc30.1)
            exact Gl.outNW X' hS (by rw [eT]; exact sz43) hx hk (t := .boolean) Bd.returns (by simp) (hb hby at_228) ⟨(congrArg (fun z => some (Value.int z)) (show nar .boolean (fj0_3 p0 p1 p2 p3 p4 G1 w_sf) = fn0 p0 p1 p2 p3 p4 G1 w_sf by unfold fn0; rw [if_neg hf5, if_pos hf22, if_pos hN]; try rfl)), N'⟩ (by decide) (by decide)
          by_cases hf44 : (fn51U (bA (nar .char (fn1 p1 G1 w_sf))) (bB (nar .char (fn1 p1 G1 w_sf))) G1 w_sf) = (fj0_1 p0 p1 p2 p3 p4 G1 w_sf)
          · refine gb (mkF m 223 #[vi p0, vi p1, vi p2, vi p3, vi p4, vi (nT p0), vi (fn1 p1 G1 w_sf), vi (fn1 p2 G1 w_sf), vi (fn1 p3 G1 w_sf), vi (fn1 p4 G1 w_sf), vr b23, vi (fj0_1 p0 p1 p2 p3 p4 G1 w_sf)] []) (fun _ k => XS.icmpNo X39.here hx rfl (hb hby at_220) rfl (teq hf44).2 k) ?_
            refine gb (mkF m 224 #[vi p0, vi p1, vi p2, vi p3, vi p4, vi (nT p0), vi (fn1 p1 G1 w_sf), vi (fn1 p2 G1 w_sf), vi (fn1 p3 G1 w_sf), vi (fn1 p4 G1 w_sf), vr b23, vi (fj0_1 p0 p1 p2 p3 p4 G1 w_sf)] [(.int 1)]) (fun _ k => XS.iconst X39.here hx rfl (hb hby at_223) k) ?_
            refine gb (mkF m 228 #[vi p0, vi p1, vi p2, vi p3, vi p4, vi (nT p0), vi (fn1 p1 G1 w_sf), vi (fn1 p2 G1 w_sf), vi (fn1 p3 G1 w_sf), vi (fn1 p4 G1 w_sf), vr b23, vi (fj0_1 p0 p1 p2 p3 p4 G1 w_sf)] [(.int 1)]) (fun _ k => XS.goto X39.here hx rfl (pc0 := 224) (pc' := 228) rfl (hb hby at_224) (by decide) (by decide) k) ?_
            exact J42 _ _ X39 e39 N39 (1 : Int32) (show (1 : Int32) = (fj0_3 p0 p1 p2 p3 p4 G1 w_sf) by unfold fj0_3; rw [if_pos hf44]; try rfl)
          · refine gb (mkF m 227 #[vi p0, vi p1, vi p2, vi p3, vi p4, vi (nT p0), vi (fn1 p1 G1 w_sf), vi (fn1 p2 G1 w_sf), vi (fn1 p3 G1 w_sf), vi (fn1 p4 G1 w_sf), vr b23, vi (fj0_1 p0 p1 p2 p3 p4 G1 w_sf)] []) (fun _ k => XS.icmpYes X39.here hx rfl (pc0 := 220) (pc' := 227) rfl (hb hby at_220) rfl (feq hf44).2 (by decide) (by decide) k) ?_
            refine gb (mkF m 228 #[vi p0, vi p1, vi p2, vi p3, vi p4, vi (nT p0), vi (fn1 p1 G1 w_sf), vi (fn1 p2 G1 w_sf), vi (fn1 p3 G1 w_sf), vi (fn1 p4 G1 w_sf), vr b23, vi (fj0_1 p0 p1 p2 p3 p4 G1 w_sf)] [(.int 0)]) (fun _ k => XS.iconst X39.here hx rfl (hb hby at_227) k) ?_
            exact J42 _ _ X39 e39 N39 (0 : Int32) (show (0 : Int32) = (fj0_3 p0 p1 p2 p3 p4 G1 w_sf) by unfold fj0_3; rw [if_neg hf44]; try rfl)
      refine gb (mkF m 149 #[vi p0, vi p1, vi p2, vi p3, vi p4, vi (nT p0), vi (fn1 p1 G1 w_sf), vi (fn1 p2 G1 w_sf), vi (fn1 p3 G1 w_sf), vi (fn1 p4 G1 w_sf), vr b23, .unset] []) (fun _ k => XS.icmpNo X25.here hx rfl (hb hby at_146) rfl (flt (by rw [show (nT p0) = (1 : Int32) from hf22]; decide)).1 k) ?_
      refine gb (mkF m 151 #[vi p0, vi p1, vi p2, vi p3, vi p4, vi (nT p0), vi (fn1 p1 G1 w_sf), vi (fn1 p2 G1 w_sf), vi (fn1 p3 G1 w_sf), vi (fn1 p4 G1 w_sf), vr b23, .unset] [(.int (fn1 p1 G1 w_sf))]) (fun _ k => XS.iload X25.here hx rfl (hb hby at_149) rfl k) ?_
      have O46 := ((O.ext E23).wr W25 gb23)
      obtain ⟨_, _, ⟨T45, L45, k45, n45⟩, -, X45, ⟨Lc45, hQ45, l45, y45, z45⟩, st45⟩ := callS X25 hx (y := mq22) hown (mvT hZ (hW hw 42 rfl)) (mvT hZ (hW hw 43 rfl)) (mvT hZ (hW hw 3 rfl)) (mvT hZ (hW hw 44 rfl)) (by decide) (backOf (W := 0) (rm8 l Z a0' hw [] (fn1 p1 G1 w_sf) G1 w_sf h25 n0 O46 W ) hZ (hW hw 44 rfl) (hW hw 3 rfl) (by decide) (by decide)) (g := (mkF m 151 #[vi p0, vi p1, vi p2, vi p3, vi p4, vi (nT p0), vi (fn1 p1 G1 w_sf), vi (fn1 p2 G1 w_sf), vi (fn1 p3 G1 w_sf), vi (fn1 p4 G1 w_sf), vr b23, .unset] [(.int (fn1 p1 G1 w_sf))])) rfl (by rw [hml]; rfl) (argsL := [(.int (fn1 p1 G1 w_sf))]) (rest := []) (lenOf pd320 rfl) rfl (Nat.le_of_eq rfl) (hb hby at_151) (fun _ _ => ⟨rfl, e25, (by decide : 1 + 0 ≤ _), (by decide : 1 + 0 ≤ _)⟩)
      dsimp only [Pt.U, Pt.locs, Pt.cells, Pt.slots] at X45 l45 y45 z45 st45 hQ45
      subst l45 y45 z45
      obtain ⟨rfl, N45q, e45⟩ := hQ45
      have N45 := Fr.app N25 N45q
      refine gb (mkF m 154 #[vi p0, vi p1, vi p2, vi p3, vi p4, vi (nT p0), vi (fn1 p1 G1 w_sf), vi (fn1 p2 G1 w_sf), vi (fn1 p3 G1 w_sf), vi (fn1 p4 G1 w_sf), vr b23, .unset] [(.int (fn8 (fn1 p1 G1 w_sf) G1 w_sf))]) st45 ?_
      by_cases hf47 : (fn8 (fn1 p1 G1 w_sf) G1 w_sf) = (0 : Int32)
      · refine gb (mkF m 203 #[vi p0, vi p1, vi p2, vi p3, vi p4, vi (nT p0), vi (fn1 p1 G1 w_sf), vi (fn1 p2 G1 w_sf), vi (fn1 p3 G1 w_sf), vi (fn1 p4 G1 w_sf), vr b23, .unset] []) (fun _ k => XS.ifYes X45.here hx rfl (pc0 := 154) (pc' := 203) rfl (hb hby at_154) rfl ((if0 _ _).trans (teq hf47).1) (by decide) (by decide) k) ?_
        refine gb (mkF m 204 #[vi p0, vi p1, vi p2, vi p3, vi p4, vi (nT p0), vi (fn1 p1 G1 w_sf), vi (fn1 p2 G1 w_sf), vi (fn1 p3 G1 w_sf), vi (fn1 p4 G1 w_sf), vr b23, .unset] [(.int 0)]) (fun _ k => XS.iconst X45.here hx rfl (hb hby at_203) k) ?_
        exact J26 _ _ X45 e45 N45 (0 : Int32) (show (0 : Int32) = (fj0_1 p0 p1 p2 p3 p4 G1 w_sf) by unfold fj0_1; rw [if_pos hf47]; try rfl)
      · refine gb (mkF m 157 #[vi p0, vi p1, vi p2, vi p3, vi p4, vi (nT p0), vi (fn1 p1 G1 w_sf), vi (fn1 p2 G1 w_sf), vi (fn1 p3 G1 w_sf), vi (fn1 p4 G1 w_sf), vr b23, .unset] []) (fun _ k => XS.ifNo X45.here hx rfl (hb hby at_154) rfl ((if0 _ _).trans (feq hf47).1) k) ?_
        refine gb (mkF m 159 #[vi p0, vi p1, vi p2, vi p3, vi p4, vi (nT p0), vi (fn1 p1 G1 w_sf), vi (fn1 p2 G1 w_sf), vi (fn1 p3 G1 w_sf), vi (fn1 p4 G1 w_sf), vr b23, .unset] [(.int (nT p0))]) (fun _ k => XS.iload X45.here hx rfl (hb hby at_157) rfl k) ?_
        refine gb (mkF m 160 #[vi p0, vi p1, vi p2, vi p3, vi p4, vi (nT p0), vi (fn1 p1 G1 w_sf), vi (fn1 p2 G1 w_sf), vi (fn1 p3 G1 w_sf), vi (fn1 p4 G1 w_sf), vr b23, .unset] [(.int 2), (.int (nT p0))]) (fun _ k => XS.iconst X45.here hx rfl (hb hby at_159) k) ?_
        refine gb (mkF m 171 #[vi p0, vi p1, vi p2, vi p3, vi p4, vi (nT p0), vi (fn1 p1 G1 w_sf), vi (fn1 p2 G1 w_sf), vi (fn1 p3 G1 w_sf), vi (fn1 p4 G1 w_sf), vr b23, .unset] []) (fun _ k => XS.icmpYes X45.here hx rfl (pc0 := 160) (pc' := 171) rfl (hb hby at_160) rfl (tlt (by rw [show (nT p0) = (1 : Int32) from hf22]; decide)).1 (by decide) (by decide) k) ?_
        refine gb (mkF m 173 #[vi p0, vi p1, vi p2, vi p3, vi p4, vi (nT p0), vi (fn1 p1 G1 w_sf), vi (fn1 p2 G1 w_sf), vi (fn1 p3 G1 w_sf), vi (fn1 p4 G1 w_sf), vr b23, .unset] [(.int (nT p0))]) (fun _ k => XS.iload X45.here hx rfl (hb hby at_171) rfl k) ?_
        refine gb (mkF m 174 #[vi p0, vi p1, vi p2, vi p3, vi p4, vi (nT p0), vi (fn1 p1 G1 w_sf), vi (fn1 p2 G1 w_sf), vi (fn1 p3 G1 w_sf), vi (fn1 p4 G1 w_sf), vr b23, .unset] [(.int 3), (.int (nT p0))]) (fun _ k => XS.iconst X45.here hx rfl (hb hby at_173) k) ?_
        refine gb (mkF m 185 #[vi p0, vi p1, vi p2, vi p3, vi p4, vi (nT p0), vi (fn1 p1 G1 w_sf), vi (fn1 p2 G1 w_sf), vi (fn1 p3 G1 w_sf), vi (fn1 p4 G1 w_sf), vr b23, .unset] []) (fun _ k => XS.icmpYes X45.here hx rfl (pc0 := 174) (pc' := 185) rfl (hb hby at_174) rfl (tlt (by rw [show (nT p0) = (1 : Int32) from hf22]; decide)).1 (by decide) (by decide) k) ?_
        refine gb (mkF m 187 #[vi p0, vi p1, vi p2, vi p3, vi p4, vi (nT p0), vi (fn1 p1 G1 w_sf), vi (fn1 p2 G1 w_sf), vi (fn1 p3 G1 w_sf), vi (fn1 p4 G1 w_sf), vr b23, .unset] [(.int (nT p0))]) (fun _ k => XS.iload X45.here hx rfl (hb hby at_185) rfl k) ?_
        refine gb (mkF m 188 #[vi p0, vi p1, vi p2, vi p3, vi p4, vi (nT p0), vi (fn1 p1 G1 w_sf), vi (fn1 p2 G1 w_sf), vi (fn1 p3 G1 w_sf), vi (fn1 p4 G1 w_sf), vr b23, .unset] [(.int 4), (.int (nT p0))]) (fun _ k => XS.iconst X45.here hx rfl (hb hby at_187) k) ?_
        refine gb (mkF m 199 #[vi p0, vi p1, vi p2, vi p3, vi p4, vi (nT p0), vi (fn1 p1 G1 w_sf), vi (fn1 p2 G1 w_sf), vi (fn1 p3 G1 w_sf), vi (fn1 p4 G1 w_sf), vr b23, .unset] []) (fun _ k => XS.icmpYes X45.here hx rfl (pc0 := 188) (pc' := 199) rfl (hb hby at_188) rfl (tlt (by rw [show (nT p0) = (1 : Int32) from hf22]; decide)).1 (by decide) (by decide) k) ?_
        refine gb (mkF m 200 #[vi p0, vi p1, vi p2, vi p3, vi p4, vi (nT p0), vi (fn1 p1 G1 w_sf), vi (fn1 p2 G1 w_sf), vi (fn1 p3 G1 w_sf), vi (fn1 p4 G1 w_sf), vr b23, .unset] [(.int 1)]) (fun _ k => XS.iconst X45.here hx rfl (hb hby at_199) k) ?_
        refine gb (mkF m 204 #[vi p0, vi p1, vi p2, vi p3, vi p4, vi (nT p0), vi (fn1 p1 G1 w_sf), vi (fn1 p2 G1 w_sf), vi (fn1 p3 G1 w_sf), vi (fn1 p4 G1 w_sf), vr b23, .unset] [(.int 1)]) (fun _ k => XS.goto X45.here hx rfl (pc0 := 200) (pc' := 204) rfl (hb hby at_200) (by decide) (by decide) k) ?_
        exact J26 _ _ X45 e45 N45 (1 : Int32) (show (1 : Int32) = (fj0_1 p0 p1 p2 p3 p4 G1 w_sf) by unfold fj0_1; rw [if_neg hf47]; try rfl)
    · refine gb (mkF m 65 #[vi p0, vi p1, vi p2, vi p3, vi p4, vi (nT p0), vi (fn1 p1 G1 w_sf), vi (fn1 p2 G1 w_sf), vi (fn1 p3 G1 w_sf), vi (fn1 p4 G1 w_sf), .unset, .unset] []) (fun _ k => XS.icmpYes X4.here hx rfl (pc0 := 49) (pc' := 65) rfl (hb hby at_49) rfl (feq hf22).2 (by decide) (by decide) k) ?_
      refine gb (mkF m 67 #[vi p0, vi p1, vi p2, vi p3, vi p4, vi (nT p0), vi (fn1 p1 G1 w_sf), vi (fn1 p2 G1 w_sf), vi (fn1 p3 G1 w_sf), vi (fn1 p4 G1 w_sf), .unset, .unset] [(.int (nT p0))]) (fun _ k => XS.iload X4.here hx rfl (hb hby at_65) rfl k) ?_
      refine gb (mkF m 68 #[vi p0, vi p1, vi p2, vi p3, vi p4, vi (nT p0), vi (fn1 p1 G1 w_sf), vi (fn1 p2 G1 w_sf), vi (fn1 p3 G1 w_sf), vi (fn1 p4 G1 w_sf), .unset, .unset] [(.int 2), (.int (nT p0))]) (fun _ k => XS.iconst X4.here hx rfl (hb hby at_67) k) ?_
      by_cases hf48 : (nT p0) = (2 : Int32)
      · refine gb (mkF m 71 #[vi p0, vi p1, vi p2, vi p3, vi p4, vi (nT p0), vi (fn1 p1 G1 w_sf), vi (fn1 p2 G1 w_sf), vi (fn1 p3 G1 w_sf), vi (fn1 p4 G1 w_sf), .unset, .unset] []) (fun _ k => XS.icmpNo X4.here hx rfl (hb hby at_68) rfl (teq hf48).2 k) ?_
        refine gb (mkF m 72 #[vi p0, vi p1, vi p2, vi p3, vi p4, vi (nT p0), vi (fn1 p1 G1 w_sf), vi (fn1 p2 G1 w_sf), vi (fn1 p3 G1 w_sf), vi (fn1 p4 G1 w_sf), .unset, .unset] [(.int 2)]) (fun _ k => XS.iconst X4.here hx rfl (hb hby at_71) k) ?_
        obtain ⟨T49, h49, k49, X49, e49, E49, A49, st49⟩ := newP X4 hx hZ (hW hw 5 rfl) e4 (g := (mkF m 72 #[vi p0, vi p1, vi p2, vi p3, vi p4, vi (nT p0), vi (fn1 p1 G1 w_sf), vi (fn1 p2 G1 w_sf), vi (fn1 p3 G1 w_sf), vi (fn1 p4 G1 w_sf), .unset, .unset] [(.int 2)])) rfl (hb hby at_72) rfl (by decide) (cap := 2) (by decide) (by decide) (by decide) (by decide)
        obtain ⟨b49, g49⟩ : ∃ z, z = (h0).size := ⟨_, rfl⟩
        rw [← g49] at A49 st49
        have gb49 : n0 ≤ b49 := Nat.le_trans (Nat.le_trans (Nat.le_of_eq O.1.symm) O.2.1) (Nat.le_of_eq g49.symm)
        have sb49 : h0.size ≤ b49 := Nat.le_trans (Keep.refl h0 []).1 (Nat.le_of_eq g49.symm)
        have V49 : Arv Z h49 b49 k49 .char (2 : Int32) [(.int 0), (.int 0)] (.int 0) := (Arv.new A49 (by decide)).pad (pad_rep [] (.int 0) 2)
        refine gb (mkF m 74 #[vi p0, vi p1, vi p2, vi p3, vi p4, vi (nT p0), vi (fn1 p1 G1 w_sf), vi (fn1 p2 G1 w_sf), vi (fn1 p3 G1 w_sf), vi (fn1 p4 G1 w_sf), .unset, .unset] [(.ref b49)]) st49 ?_
        refine gb (mkF m 75 #[vi p0, vi p1, vi p2, vi p3, vi p4, vi (nT p0), vi (fn1 p1 G1 w_sf), vi (fn1 p2 G1 w_sf), vi (fn1 p3 G1 w_sf), vi (fn1 p4 G1 w_sf), .unset, .unset] [(.ref b49), (.ref b49)]) (fun _ k => XS.dup X49.here hx rfl (hb hby at_74) rfl rfl k) ?_
        refine gb (mkF m 76 #[vi p0, vi p1, vi p2, vi p3, vi p4, vi (nT p0), vi (fn1 p1 G1 w_sf), vi (fn1 p2 G1 w_sf), vi (fn1 p3 G1 w_sf), vi (fn1 p4 G1 w_sf), .unset, .unset] [(.int 0), (.ref b49), (.ref b49)]) (fun _ k => XS.iconst X49.here hx rfl (hb hby at_75) k) ?_
        refine gb (mkF m 78 #[vi p0, vi p1, vi p2, vi p3, vi p4, vi (nT p0), vi (fn1 p1 G1 w_sf), vi (fn1 p2 G1 w_sf), vi (fn1 p3 G1 w_sf), vi (fn1 p4 G1 w_sf), .unset, .unset] [(.int (fn1 p1 G1 w_sf)), (.int 0), (.ref b49), (.ref b49)]) (fun _ k => XS.iload X49.here hx rfl (hb hby at_76) rfl k) ?_
        obtain ⟨cl50, Ar50, qa50, Sa50, Na50, Ha50, Ga50⟩ := id V49
        have hin51 : ¬ ((0 : Int32) < 0 ∨ cl50.slots.size ≤ ((0 : Int32)).toNatClampNeg) := inb_of Sa50 ⟨by decide, by decide⟩
        obtain ⟨T51, h51, X51, e51, W51, st51⟩ := stC X49 hx hZ e49 Ar50 (j := (0 : Int32)) hin51 (g := (mkF m 78 #[vi p0, vi p1, vi p2, vi p3, vi p4, vi (nT p0), vi (fn1 p1 G1 w_sf), vi (fn1 p2 G1 w_sf), vi (fn1 p3 G1 w_sf), vi (fn1 p4 G1 w_sf), .unset, .unset] [(.int (fn1 p1 G1 w_sf)), (.int 0), (.ref b49), (.ref b49)])) rfl rfl (hb hby at_78)
        have V51 : Arv Z h51 b49 k49 .char (2 : Int32) [(.int (nar .char (fn1 p1 G1 w_sf))), (.int 0)] (.int 0) := Arv.set Ar50 qa50 Sa50 Na50 Ha50 Ga50 (fits_nar_char _) W51 0 rfl (Nat.le_of_ble_eq_true rfl)
        have N51 := Fr.snoc X51 N4 gb49
        refine gb (mkF m 79 #[vi p0, vi p1, vi p2, vi p3, vi p4, vi (nT p0), vi (fn1 p1 G1 w_sf), vi (fn1 p2 G1 w_sf), vi (fn1 p3 G1 w_sf), vi (fn1 p4 G1 w_sf), .unset, .unset] [(.ref b49)]) st51 ?_
        refine gb (mkF m 80 #[vi p0, vi p1, vi p2, vi p3, vi p4, vi (nT p0), vi (fn1 p1 G1 w_sf), vi (fn1 p2 G1 w_sf), vi (fn1 p3 G1 w_sf), vi (fn1 p4 G1 w_sf), .unset, .unset] [(.ref b49), (.ref b49)]) (fun _ k => XS.dup X51.here hx rfl (hb hby at_79) rfl rfl k) ?_
        refine gb (mkF m 81 #[vi p0, vi p1, vi p2, vi p3, vi p4, vi (nT p0), vi (fn1 p1 G1 w_sf), vi (fn1 p2 G1 w_sf), vi (fn1 p3 G1 w_sf), vi (fn1 p4 G1 w_sf), .unset, .unset] [(.int 1), (.ref b49), (.ref b49)]) (fun _ k => XS.iconst X51.here hx rfl (hb hby at_80) k) ?_
        refine gb (mkF m 83 #[vi p0, vi p1, vi p2, vi p3, vi p4, vi (nT p0), vi (fn1 p1 G1 w_sf), vi (fn1 p2 G1 w_sf), vi (fn1 p3 G1 w_sf), vi (fn1 p4 G1 w_sf), .unset, .unset] [(.int (fn1 p2 G1 w_sf)), (.int 1), (.ref b49), (.ref b49)]) (fun _ k => XS.iload X51.here hx rfl (hb hby at_81) rfl k) ?_
        obtain ⟨cl52, Ar52, qa52, Sa52, Na52, Ha52, Ga52⟩ := id V51
        have hin53 : ¬ ((1 : Int32) < 0 ∨ cl52.slots.size ≤ ((1 : Int32)).toNatClampNeg) := inb_of Sa52 ⟨by decide, by decide⟩
        obtain ⟨T53, h53, X53, e53, W53, st53⟩ := stC X51 hx hZ e51 Ar52 (j := (1 : Int32)) hin53 (g := (mkF m 83 #[vi p0, vi p1, vi p2, vi p3, vi p4, vi (nT p0), vi (fn1 p1 G1 w_sf), vi (fn1 p2 G1 w_sf), vi (fn1 p3 G1 w_sf), vi (fn1 p4 G1 w_sf), .unset, .unset] [(.int (fn1 p2 G1 w_sf)), (.int 1), (.ref b49), (.ref b49)])) rfl rfl (hb hby at_83)
        have V53 : Arv Z h53 b49 k49 .char (2 : Int32) [(.int (nar .char (fn1 p1 G1 w_sf))), (.int (nar .char (fn1 p2 G1 w_sf)))] (.int 0) := Arv.set Ar52 qa52 Sa52 Na52 Ha52 Ga52 (fits_nar_char _) W53 1 rfl (Nat.le_of_ble_eq_true rfl)
        have N53 := Fr.snoc X53 N51 gb49
        refine gb (mkF m 84 #[vi p0, vi p1, vi p2, vi p3, vi p4, vi (nT p0), vi (fn1 p1 G1 w_sf), vi (fn1 p2 G1 w_sf), vi (fn1 p3 G1 w_sf), vi (fn1 p4 G1 w_sf), .unset, .unset] [(.ref b49)]) st53 ?_
        refine gb (mkF m 86 #[vi p0, vi p1, vi p2, vi p3, vi p4, vi (nT p0), vi (fn1 p1 G1 w_sf), vi (fn1 p2 G1 w_sf), vi (fn1 p3 G1 w_sf), vi (fn1 p4 G1 w_sf), vr b49, .unset] []) (fun _ k => XS.astore X53.here hx rfl (hb hby at_84) rfl rfl (l' := #[vi p0, vi p1, vi p2, vi p3, vi p4, vi (nT p0), vi (fn1 p1 G1 w_sf), vi (fn1 p2 G1 w_sf), vi (fn1 p3 G1 w_sf), vi (fn1 p4 G1 w_sf), vr b49, .unset]) rfl k) ?_
        refine gb (mkF m 143 #[vi p0, vi p1, vi p2, vi p3, vi p4, vi (nT p0), vi (fn1 p1 G1 w_sf), vi (fn1 p2 G1 w_sf), vi (fn1 p3 G1 w_sf), vi (fn1 p4 G1 w_sf), vr b49, .unset] []) (fun _ k => XS.goto X53.here hx rfl (pc0 := 86) (pc' := 143) rfl (hb hby at_86) (by decide) (by decide) k) ?_
        refine gb (mkF m 145 #[vi p0, vi p1, vi p2, vi p3, vi p4, vi (nT p0), vi (fn1 p1 G1 w_sf), vi (fn1 p2 G1 w_sf), vi (fn1 p3 G1 w_sf), vi (fn1 p4 G1 w_sf), vr b49, .unset] [(.int (nT p0))]) (fun _ k => XS.iload X53.here hx rfl (hb hby at_143) rfl k) ?_
        refine gb (mkF m 146 #[vi p0, vi p1, vi p2, vi p3, vi p4, vi (nT p0), vi (fn1 p1 G1 w_sf), vi (fn1 p2 G1 w_sf), vi (fn1 p3 G1 w_sf), vi (fn1 p4 G1 w_sf), vr b49, .unset] [(.int 1), (.int (nT p0))]) (fun _ k => XS.iconst X53.here hx rfl (hb hby at_145) k) ?_
        have J54 : ∀ (T' : State) (lc : List Loc) (X' : Stand p l e room_1 (s.setVm s.vm) m #[(.int p0), (.int p1), (.int p2), (.int p3), (.int p4)] below meth c T' lc 1 2) (eT : T'.heap = h53) (N' : Fr n0 lc) (zj54_0 : Int32) (hz54_0 : zj54_0 = (fj0_4 p0 p1 p2 p3 p4 G1 w_sf)), Gl p e below (PosW 24 1152 (Q0 Z p0 p1 p2 p3 p4 G1 w_sf h0 n0) s) T' (mkF m 204 #[vi p0, vi p1, vi p2, vi p3, vi p4, vi (nT p0), vi (fn1 p1 G1 w_sf), vi (fn1 p2 G1 w_sf), vi (fn1 p3 G1 w_sf), vi (fn1 p4 G1 w_sf), vr b49, .unset] [(.int zj54_0)]) := by
          intro T' lc X' eT N' zj54_0 hz54_0
          subst hz54_0
          refine gb (mkF m 206 #[vi p0, vi p1, vi p2, vi p3, vi p4, vi (nT p0), vi (fn1 p1 G1 w_sf), vi (fn1 p2 G1 w_sf), vi (fn1 p3 G1 w_sf), vi (fn1 p4 G1 w_sf), vr b49, vi (fj0_4 p0 p1 p2 p3 p4 G1 w_sf)] []) (fun _ k => XS.istore X'.here hx rfl (hb hby at_204) rfl (l' := #[vi p0, vi p1, vi p2, vi p3, vi p4, vi (nT p0), vi (fn1 p1 G1 w_sf), vi (fn1 p2 G1 w_sf), vi (fn1 p3 G1 w_sf), vi (fn1 p4 G1 w_sf), vr b49, vi (fj0_4 p0 p1 p2 p3 p4 G1 w_sf)]) rfl k) ?_
          have O56 := (((O.ext E49).wr W51 gb49).wr W53 gb49)
          have K57 := ((((Keep.refl h0 []).ext E49).wr W51 (Or.inr sb49)).wr W53 (Or.inr sb49))
          obtain ⟨T55, h55, X55, e55, E55, A55, D55, -, st55⟩ := newO X' hx hZ hown (hW hw 6 rfl) (hW hw 7 rfl) (hW hw 8 rfl) eT (g := (mkF m 206 #[vi p0, vi p1, vi p2, vi p3, vi p4, vi (nT p0), vi (fn1 p1 G1 w_sf), vi (fn1 p2 G1 w_sf), vi (fn1 p3 G1 w_sf), vi (fn1 p4 G1 w_sf), vr b49, vi (fj0_4 p0 p1 p2 p3 p4 G1 w_sf)] [])) rfl (hb hby at_206) (by decide) (by decide)
          obtain ⟨b55, g55⟩ : ∃ z, z = (h53).size := ⟨_, rfl⟩
          rw [← g55] at A55 D55 st55
          have gb55 : n0 ≤ b55 := Nat.le_trans (Nat.le_trans (Nat.le_of_eq O56.1.symm) O56.2.1) (Nat.le_of_eq g55.symm)
          have sb55 : h0.size ≤ b55 := Nat.le_trans K57.1 (Nat.le_of_eq g55.symm)
          have ne55_0 : b49 ≠ b55 := Nat.ne_of_lt (Nat.lt_of_lt_of_le V53.lt (Nat.le_of_eq g55.symm))
          have D55_value : Fld Z h55 b55 "java/lang/String" "value" "[B" .null := D55 (Or.inr (hW hw 21 rfl)) (ty := (.array .byte)) (by decide)
          have D55_coder : Fld Z h55 b55 "java/lang/String" "coder" "B" (.int 0) := D55 (Or.inr (hW hw 22 rfl)) (ty := .byte) (by decide)
          refine gb (mkF m 209 #[vi p0, vi p1, vi p2, vi p3, vi p4, vi (nT p0), vi (fn1 p1 G1 w_sf), vi (fn1 p2 G1 w_sf), vi (fn1 p3 G1 w_sf), vi (fn1 p4 G1 w_sf), vr b49, vi (fj0_4 p0 p1 p2 p3 p4 G1 w_sf)] [(.ref b55)]) st55 ?_
          refine gb (mkF m 210 #[vi p0, vi p1, vi p2, vi p3, vi p4, vi (nT p0), vi (fn1 p1 G1 w_sf), vi (fn1 p2 G1 w_sf), vi (fn1 p3 G1 w_sf), vi (fn1 p4 G1 w_sf), vr b49, vi (fj0_4 p0 p1 p2 p3 p4 G1 w_sf)] [(.ref b55), (.ref b55)]) (fun _ k => XS.dup X55.here hx rfl (hb hby at_209) rfl rfl k) ?_
          refine gb (mkF m 212 #[vi p0, vi p1, vi p2, vi p3, vi p4, vi (nT p0), vi (fn1 p1 G1 w_sf), vi (fn1 p2 G1 w_sf), vi (fn1 p3 G1 w_sf), vi (fn1 p4 G1 w_sf), vr b49, vi (fj0_4 p0 p1 p2 p3 p4 G1 w_sf)] [(.ref b49), (.ref b55), (.ref b55)]) (fun _ k => XS.aload X55.here hx rfl (hb hby at_210) rfl rfl k) ?_
          have f59 := (Arv.ext V53 E55)
          have O60 := (O56.ext E55)
          obtain ⟨_, _, ⟨T58, L58, k58, n58⟩, -, X58, ⟨Lc58, hQ58, l58, y58, z58⟩, st58⟩ := X55.specialBack hx (y := mq19) rfl hown (mvT hZ (hW hw 9 rfl)) (mvT hZ (hW hw 10 rfl)) (mvT hZ (hW hw 11 rfl)) (by decide) (backOf (W := 1) (rm2k2 l Z a0' hw [] b55 b49 k49 (nar .char (fn1 p1 G1 w_sf)) (nar .char (fn1 p2 G1 w_sf)) G1 w_sf h55 n0 O60 W A55 D55_value D55_coder gb55 f59 (nar_nar _) (nar_nar _)) hZ (hW hw 11 rfl) (hW hw 8 rfl) (by decide) (by decide)) (g := (mkF m 212 #[vi p0, vi p1, vi p2, vi p3, vi p4, vi (nT p0), vi (fn1 p1 G1 w_sf), vi (fn1 p2 G1 w_sf), vi (fn1 p3 G1 w_sf), vi (fn1 p4 G1 w_sf), vr b49, vi (fj0_4 p0 p1 p2 p3 p4 G1 w_sf)] [(.ref b49), (.ref b55), (.ref b55)])) rfl (by rw [hml]; rfl) (Steps.refl _) (a := b55) (argsL := [(.ref b49)]) (rest := [(.ref b55)]) (lenOf pd318 rfl) rfl (Nat.le_of_eq rfl) (hb hby at_212) (fun _ _ => ⟨rfl, e55, (by decide : 2 + 2 ≤ _), (by decide : 6 + 6 ≤ _)⟩)
          dsimp only [Pt.U, Pt.locs, Pt.cells, Pt.slots] at X58 l58 y58 z58 st58 hQ58
          subst l58 y58 z58
          obtain ⟨b_58, kb_58, rfl, N58q, Kc58, fc58_0, fc58_1⟩ := hQ58
          have N58 := Fr.app N' N58q
          refine gb (mkF m 215 #[vi p0, vi p1, vi p2, vi p3, vi p4, vi (nT p0), vi (fn1 p1 G1 w_sf), vi (fn1 p2 G1 w_sf), vi (fn1 p3 G1 w_sf), vi (fn1 p4 G1 w_sf), vr b49, vi (fj0_4 p0 p1 p2 p3 p4 G1 w_sf)] [(.ref b55)]) (fun _ k => st58.trans k) ?_
          rcases fc58_1 with ⟨hN, hcd, hV⟩ | ⟨hN, hcd, hV⟩
          · have f62 := (Exa.keep A55 Kc58)
            have O63 := (O60.keep Kc58 (allS gb55 all0))
            obtain ⟨_, _, ⟨T61, L61, k61, n61⟩, -, X61, ⟨Lc61, hQ61, l61, y61, z61⟩, st61⟩ := callS X58 hx (y := mq20) hown (mvT hZ (hW hw 27 rfl)) (mvT hZ (hW hw 28 rfl)) (mvT hZ (hW hw 29 rfl)) (mvT hZ (hW hw 30 rfl)) (by decide) (backOf (W := 0) (rm52A l Z a0' hw [] b55 b_58 kb_58 (bL (nar .char (fn1 p1 G1 w_sf))) (bL (nar .char (fn1 p2 G1 w_sf))) G1 w_sf T58.heap n0 O63 W f62 fc58_0 hcd hV) hZ (hW hw 30 rfl) (hW hw 29 rfl) (by decide) (by decide)) (g := (mkF m 215 #[vi p0, vi p1, vi p2, vi p3, vi p4, vi (nT p0), vi (fn1 p1 G1 w_sf), vi (fn1 p2 G1 w_sf), vi (fn1 p3 G1 w_sf), vi (fn1 p4 G1 w_sf), vr b49, vi (fj0_4 p0 p1 p2 p3 p4 G1 w_sf)] [(.ref b55)])) rfl (by rw [hml]; rfl) (argsL := [(.ref b55)]) (rest := []) (lenOf pd319 rfl) rfl (Nat.le_of_eq rfl) (hb hby at_215) (fun _ _ => ⟨rfl, rfl, (by decide : 4 + 0 ≤ _), (by decide : 12 + 0 ≤ _)⟩)
            dsimp only [Pt.U, Pt.locs, Pt.cells, Pt.slots] at X61 l61 y61 z61 st61 hQ61
            subst l61 y61 z61
            obtain ⟨rfl, N61q, e61⟩ := hQ61
            have N61 := Fr.app N58 N61q
            refine gb (mkF m 218 #[vi p0, vi p1, vi p2, vi p3, vi p4, vi (nT p0), vi (fn1 p1 G1 w_sf), vi (fn1 p2 G1 w_sf), vi (fn1 p3 G1 w_sf), vi (fn1 p4 G1 w_sf), vr b49, vi (fj0_4 p0 p1 p2 p3 p4 G1 w_sf)] [(.int (fn52A (bL (nar .char (fn1 p1 G1 w_sf))) (bL (nar .char (fn1 p2 G1 w_sf))) G1 w_sf))]) st61 ?_
            refine gb (mkF m 220 #[vi p0, vi p1, vi p2, vi p3, vi p4, vi (nT p0), vi (fn1 p1 G1 w_sf), vi (fn1 p2 G1 w_sf), vi (fn1 p3 G1 w_sf), vi (fn1 p4 G1 w_sf), vr b49, vi (fj0_4 p0 p1 p2 p3 p4 G1 w_sf)] [(.int (fj0_4 p0 p1 p2 p3 p4 G1 w_sf)), (.int (fn52A (bL (nar .char (fn1 p1 G1 w_sf))) (bL (nar .char (fn1 p2 G1 w_sf))) G1 w_sf))]) (fun _ k => XS.iload X61.here hx rfl (hb hby at_218) rfl k) ?_
            have J64 : ∀ (T' : State) (lc : List Loc) (X' : Stand p l e room_1 (s.setVm s.vm) m #[(.int p0), (.int p1), (.int p2), (.int p3), (.int p4)] below meth c T' lc 4 12) (eT : T'.heap = T58.heap) (N' : Fr n0 lc) (zj64_0 : Int32) (hz64_0 : zj64_0 = (fj0_5 p0 p1 p2 p3 p4 G1 w_sf)), Gl p e below (PosW 24 1152 (Q0 Z p0 p1 p2 p3 p4 G1 w_sf h0 n0) s) T' (mkF m 228 #[vi p0, vi p1, vi p2, vi p3, vi p4, vi (nT p0), vi (fn1 p1 G1 w_sf), vi (fn1 p2 G1 w_sf), vi (fn1 p3 G1 w_sf), vi (fn1 p4 G1 w_sf), vr b49, vi (fj0_4 p0 p1 p2 p3 p4 G1 w_sf)] [(.int zj64_0)]) := by
              intro T' lc X' eT N' zj64_0 hz64_0
              subst hz64_0
              have sz65 := (Nat.le_trans (Nat.le_trans (Nat.le_trans (Nat.le_trans (Nat.le_trans (Nat.le_refl h0.size) E49.1) (Nat.le_of_eq W51.size.symm)) (Nat.le_of_eq W53.size.symm)) E55.1) Kc58.1)
              exact Gl.outNW X' hS (by rw [eT]; exact sz65) hx hk (t := .boolean) Bd.returns (by simp) (hb hby at_228) ⟨(congrArg (fun z => some (Value.int z)) (show nar .boolean (fj0_5 p0 p1 p2 p3 p4 G1 w_sf) = fn0 p0 p1 p2 p3 p4 G1 w_sf by unfold fn0; rw [if_neg hf5, if_neg hf22, if_pos hf48, if_neg hN]; try rfl)), N'⟩ (by decide) (by decide)
            by_cases hf66 : (fn52A (bL (nar .char (fn1 p1 G1 w_sf))) (bL (nar .char (fn1 p2 G1 w_sf))) G1 w_sf) = (fj0_4 p0 p1 p2 p3 p4 G1 w_sf)
            · refine gb (mkF m 223 #[vi p0, vi p1, vi p2, vi p3, vi p4, vi (nT p0), vi (fn1 p1 G1 w_sf), vi (fn1 p2 G1 w_sf), vi (fn1 p3 G1 w_sf), vi (fn1 p4 G1 w_sf), vr b49, vi (fj0_4 p0 p1 p2 p3 p4 G1 w_sf)] []) (fun _ k => XS.icmpNo X61.here hx rfl (hb hby at_220) rfl (teq hf66).2 k) ?_
              refine gb (mkF m 224 #[vi p0, vi p1, vi p2, vi p3, vi p4, vi (nT p0), vi (fn1 p1 G1 w_sf), vi (fn1 p2 G1 w_sf), vi (fn1 p3 G1 w_sf), vi (fn1 p4 G1 w_sf), vr b49, vi (fj0_4 p0 p1 p2 p3 p4 G1 w_sf)] [(.int 1)]) (fun _ k => XS.iconst X61.here hx rfl (hb hby at_223) k) ?_
              refine gb (mkF m 228 #[vi p0, vi p1, vi p2, vi p3, vi p4, vi (nT p0), vi (fn1 p1 G1 w_sf), vi (fn1 p2 G1 w_sf), vi (fn1 p3 G1 w_sf), vi (fn1 p4 G1 w_sf), vr b49, vi (fj0_4 p0 p1 p2 p3 p4 G1 w_sf)] [(.int 1)]) (fun _ k => XS.goto X61.here hx rfl (pc0 := 224) (pc' := 228) rfl (hb hby at_224) (by decide) (by decide) k) ?_
              exact J64 _ _ X61 e61 N61 (1 : Int32) (show (1 : Int32) = (fj0_5 p0 p1 p2 p3 p4 G1 w_sf) by unfold fj0_5; rw [if_pos hf66]; try rfl)
            · refine gb (mkF m 227 #[vi p0, vi p1, vi p2, vi p3, vi p4, vi (nT p0), vi (fn1 p1 G1 w_sf), vi (fn1 p2 G1 w_sf), vi (fn1 p3 G1 w_sf), vi (fn1 p4 G1 w_sf), vr b49, vi (fj0_4 p0 p1 p2 p3 p4 G1 w_sf)] []) (fun _ k => XS.icmpYes X61.here hx rfl (pc0 := 220) (pc' := 227) rfl (hb hby at_220) rfl (feq hf66).2 (by decide) (by decide) k) ?_
              refine gb (mkF m 228 #[vi p0, vi p1, vi p2, vi p3, vi p4, vi (nT p0), vi (fn1 p1 G1 w_sf), vi (fn1 p2 G1 w_sf), vi (fn1 p3 G1 w_sf), vi (fn1 p4 G1 w_sf), vr b49, vi (fj0_4 p0 p1 p2 p3 p4 G1 w_sf)] [(.int 0)]) (fun _ k => XS.iconst X61.here hx rfl (hb hby at_227) k) ?_
              exact J64 _ _ X61 e61 N61 (0 : Int32) (show (0 : Int32) = (fj0_5 p0 p1 p2 p3 p4 G1 w_sf) by unfold fj0_5; rw [if_neg hf66]; try rfl)
          · have f68 := (Exa.keep A55 Kc58)
            have O69 := (O60.keep Kc58 (allS gb55 all0))
            obtain ⟨_, _, ⟨T67, L67, k67, n67⟩, -, X67, ⟨Lc67, hQ67, l67, y67, z67⟩, st67⟩ := callS X58 hx (y := mq20) hown (mvT hZ (hW hw 27 rfl)) (mvT hZ (hW hw 28 rfl)) (mvT hZ (hW hw 29 rfl)) (mvT hZ (hW hw 30 rfl)) (by decide) (backOf (W := 0) (rm52U l Z a0' hw [] b55 b_58 kb_58 (bA (nar .char (fn1 p1 G1 w_sf))) (bB (nar .char (fn1 p1 G1 w_sf))) (bA (nar .char (fn1 p2 G1 w_sf))) (bB (nar .char (fn1 p2 G1 w_sf))) G1 w_sf T58.heap n0 O69 W f68 fc58_0 hcd hV) hZ (hW hw 30 rfl) (hW hw 29 rfl) (by decide) (by decide)) (g := (mkF m 215 #[vi p0, vi p1, vi p2, vi p3, vi p4, vi (nT p0), vi (fn1 p1 G1 w_sf), vi (fn1 p2 G1 w_sf), vi (fn1 p3 G1 w_sf), vi (fn1 p4 G1 w_sf), vr b49, vi (fj0_4 p0 p1 p2 p3 p4 G1 w_sf)] [(.ref b55)])) rfl (by rw [hml]; rfl) (argsL := [(.ref b55)]) (rest := []) (lenOf pd319 rfl) rfl (Nat.le_of_eq rfl) (hb hby at_215) (fun _ _ => ⟨rfl, rfl, (by decide : 4 + 0 ≤ _), (by decide : 12 + 0 ≤ _)⟩)
            dsimp only [Pt.U, Pt.locs, Pt.cells, Pt.slots] at X67 l67 y67 z67 st67 hQ67
            subst l67 y67 z67
            obtain ⟨rfl, N67q, e67⟩ := hQ67
            have N67 := Fr.app N58 N67q
            refine gb (mkF m 218 #[vi p0, vi p1, vi p2, vi p3, vi p4, vi (nT p0), vi (fn1 p1 G1 w_sf), vi (fn1 p2 G1 w_sf), vi (fn1 p3 G1 w_sf), vi (fn1 p4 G1 w_sf), vr b49, vi (fj0_4 p0 p1 p2 p3 p4 G1 w_sf)] [(.int (fn52U (bA (nar .char (fn1 p1 G1 w_sf))) (bB (nar .char (fn1 p1 G1 w_sf))) (bA (nar .char (fn1 p2 G1 w_sf))) (bB (nar .char (fn1 p2 G1 w_sf))) G1 w_sf))]) st67 ?_
            refine gb (mkF m 220 #[vi p0, vi p1, vi p2, vi p3, vi p4, vi (nT p0), vi (fn1 p1 G1 w_sf), vi (fn1 p2 G1 w_sf), vi (fn1 p3 G1 w_sf), vi (fn1 p4 G1 w_sf), vr b49, vi (fj0_4 p0 p1 p2 p3 p4 G1 w_sf)] [(.int (fj0_4 p0 p1 p2 p3 p4 G1 w_sf)), (.int (fn52U (bA (nar .char (fn1 p1 G1 w_sf))) (bB (nar .char (fn1 p1 G1 w_sf))) (bA (nar .char (fn1 p2 G1 w_sf))) (bB (nar .char (fn1 p2 G1 w_sf))) G1 w_sf))]) (fun _ k => XS.iload X67.here hx rfl (hb hby at_218) rfl k) ?_
            have J70 : ∀ (T' : State) (lc : List Loc) (X' : Stand p l e room_1 (s.setVm s.vm) m #[(.int p0), (.int p1), (.int p2), (.int p3), (.int p4)] below meth c T' lc 4 12) (eT : T'.heap = T58.heap) (N' : Fr n0 lc) (zj70_0 : Int32) (hz70_0 : zj70_0 = (fj0_6 p0 p1 p2 p3 p4 G1 w_sf)), Gl p e below (PosW 24 1152 (Q0 Z p0 p1 p2 p3 p4 G1 w_sf h0 n0) s) T' (mkF m 228 #[vi p0, vi p1, vi p2, vi p3, vi p4, vi (nT p0), vi (fn1 p1 G1 w_sf), vi (fn1 p2 G1 w_sf), vi (fn1 p3 G1 w_sf), vi (fn1 p4 G1 w_sf), vr b49, vi (fj0_4 p0 p1 p2 p3 p4 G1 w_sf)] [(.int zj70_0)]) := by
              intro T' lc X' eT N' zj70_0 hz70_0
              subst hz70_0
              have sz71 := (Nat.le_trans (Nat.le_trans (Nat.le_trans (Nat.le_trans (Nat.le_trans (Nat.le_refl h0.size) E49.1) (Nat.le_of_eq W51.size.symm)) (Nat.le_of_eq W53.size.symm)) E55.1) Kc58.1)
              exact Gl.outNW X' hS (by rw [eT]; exact sz71) hx hk (t := .boolean) Bd.returns (by simp) (hb hby at_228) ⟨(congrArg (fun z => some (Value.int z)) (show nar .boolean (fj0_6 p0 p1 p2 p3 p4 G1 w_sf) = fn0 p0 p1 p2 p3 p4 G1 w_sf by unfold fn0; rw [if_neg hf5, if_neg hf22, if_pos hf48, if_pos hN]; try rfl)), N'⟩ (by decide) (by decide)
            by_cases hf72 : (fn52U (bA (nar .char (fn1 p1 G1 w_sf))) (bB (nar .char (fn1 p1 G1 w_sf))) (bA (nar .char (fn1 p2 G1 w_sf))) (bB (nar .char (fn1 p2 G1 w_sf))) G1 w_sf) = (fj0_4 p0 p1 p2 p3 p4 G1 w_sf)
            · refine gb (mkF m 223 #[vi p0, vi p1, vi p2, vi p3, vi p4, vi (nT p0), vi (fn1 p1 G1 w_sf), vi (fn1 p2 G1 w_sf), vi (fn1 p3 G1 w_sf), vi (fn1 p4 G1 w_sf), vr b49, vi (fj0_4 p0 p1 p2 p3 p4 G1 w_sf)] []) (fun _ k => XS.icmpNo X67.here hx rfl (hb hby at_220) rfl (teq hf72).2 k) ?_
              refine gb (mkF m 224 #[vi p0, vi p1, vi p2, vi p3, vi p4, vi (nT p0), vi (fn1 p1 G1 w_sf), vi (fn1 p2 G1 w_sf), vi (fn1 p3 G1 w_sf), vi (fn1 p4 G1 w_sf), vr b49, vi (fj0_4 p0 p1 p2 p3 p4 G1 w_sf)] [(.int 1)]) (fun _ k => XS.iconst X67.here hx rfl (hb hby at_223) k) ?_
              refine gb (mkF m 228 #[vi p0, vi p1, vi p2, vi p3, vi p4, vi (nT p0), vi (fn1 p1 G1 w_sf), vi (fn1 p2 G1 w_sf), vi (fn1 p3 G1 w_sf), vi (fn1 p4 G1 w_sf), vr b49, vi (fj0_4 p0 p1 p2 p3 p4 G1 w_sf)] [(.int 1)]) (fun _ k => XS.goto X67.here hx rfl (pc0 := 224) (pc' := 228) rfl (hb hby at_224) (by decide) (by decide) k) ?_
              exact J70 _ _ X67 e67 N67 (1 : Int32) (show (1 : Int32) = (fj0_6 p0 p1 p2 p3 p4 G1 w_sf) by unfold fj0_6; rw [if_pos hf72]; try rfl)
            · refine gb (mkF m 227 #[vi p0, vi p1, vi p2, vi p3, vi p4, vi (nT p0), vi (fn1 p1 G1 w_sf), vi (fn1 p2 G1 w_sf), vi (fn1 p3 G1 w_sf), vi (fn1 p4 G1 w_sf), vr b49, vi (fj0_4 p0 p1 p2 p3 p4 G1 w_sf)] []) (fun _ k => XS.icmpYes X67.here hx rfl (pc0 := 220) (pc' := 227) rfl (hb hby at_220) rfl (feq hf72).2 (by decide) (by decide) k) ?_
              refine gb (mkF m 228 #[vi p0, vi p1, vi p2, vi p3, vi p4, vi (nT p0), vi (fn1 p1 G1 w_sf), vi (fn1 p2 G1 w_sf), vi (fn1 p3 G1 w_sf), vi (fn1 p4 G1 w_sf), vr b49, vi (fj0_4 p0 p1 p2 p3 p4 G1 w_sf)] [(.int 0)]) (fun _ k => XS.iconst X67.here hx rfl (hb hby at_227) k) ?_
              exact J70 _ _ X67 e67 N67 (0 : Int32) (show (0 : Int32) = (fj0_6 p0 p1 p2 p3 p4 G1 w_sf) by unfold fj0_6; rw [if_neg hf72]; try rfl)
        refine gb (mkF m 149 #[vi p0, vi p1, vi p2, vi p3, vi p4, vi (nT p0), vi (fn1 p1 G1 w_sf), vi (fn1 p2 G1 w_sf), vi (fn1 p3 G1 w_sf), vi (fn1 p4 G1 w_sf), vr b49, .unset] []) (fun _ k => XS.icmpNo X53.here hx rfl (hb hby at_146) rfl (flt (by rw [show (nT p0) = (2 : Int32) from hf48]; decide)).1 k) ?_
        refine gb (mkF m 151 #[vi p0, vi p1, vi p2, vi p3, vi p4, vi (nT p0), vi (fn1 p1 G1 w_sf), vi (fn1 p2 G1 w_sf), vi (fn1 p3 G1 w_sf), vi (fn1 p4 G1 w_sf), vr b49, .unset] [(.int (fn1 p1 G1 w_sf))]) (fun _ k => XS.iload X53.here hx rfl (hb hby at_149) rfl k) ?_
        have O74 := (((O.ext E49).wr W51 gb49).wr W53 gb49)
        obtain ⟨_, _, ⟨T73, L73, k73, n73⟩, -, X73, ⟨Lc73, hQ73, l73, y73, z73⟩, st73⟩ := callS X53 hx (y := mq22) hown (mvT hZ (hW hw 42 rfl)) (mvT hZ (hW hw 43 rfl)) (mvT hZ (hW hw 3 rfl)) (mvT hZ (hW hw 44 rfl)) (by decide) (backOf (W := 0) (rm8 l Z a0' hw [] (fn1 p1 G1 w_sf) G1 w_sf h53 n0 O74 W ) hZ (hW hw 44 rfl) (hW hw 3 rfl) (by decide) (by decide)) (g := (mkF m 151 #[vi p0, vi p1, vi p2, vi p3, vi p4, vi (nT p0), vi (fn1 p1 G1 w_sf), vi (fn1 p2 G1 w_sf), vi (fn1 p3 G1 w_sf), vi (fn1 p4 G1 w_sf), vr b49, .unset] [(.int (fn1 p1 G1 w_sf))])) rfl (by rw [hml]; rfl) (argsL := [(.int (fn1 p1 G1 w_sf))]) (rest := []) (lenOf pd320 rfl) rfl (Nat.le_of_eq rfl) (hb hby at_151) (fun _ _ => ⟨rfl, e53, (by decide : 1 + 0 ≤ _), (by decide : 2 + 0 ≤ _)⟩)
        dsimp only [Pt.U, Pt.locs, Pt.cells, Pt.slots] at X73 l73 y73 z73 st73 hQ73
        subst l73 y73 z73
        obtain ⟨rfl, N73q, e73⟩ := hQ73
        have N73 := Fr.app N53 N73q
        refine gb (mkF m 154 #[vi p0, vi p1, vi p2, vi p3, vi p4, vi (nT p0), vi (fn1 p1 G1 w_sf), vi (fn1 p2 G1 w_sf), vi (fn1 p3 G1 w_sf), vi (fn1 p4 G1 w_sf), vr b49, .unset] [(.int (fn8 (fn1 p1 G1 w_sf) G1 w_sf))]) st73 ?_
        by_cases hf75 : (fn8 (fn1 p1 G1 w_sf) G1 w_sf) = (0 : Int32)
        · refine gb (mkF m 203 #[vi p0, vi p1, vi p2, vi p3, vi p4, vi (nT p0), vi (fn1 p1 G1 w_sf), vi (fn1 p2 G1 w_sf), vi (fn1 p3 G1 w_sf), vi (fn1 p4 G1 w_sf), vr b49, .unset] []) (fun _ k => XS.ifYes X73.here hx rfl (pc0 := 154) (pc' := 203) rfl (hb hby at_154) rfl ((if0 _ _).trans (teq hf75).1) (by decide) (by decide) k) ?_
          refine gb (mkF m 204 #[vi p0, vi p1, vi p2, vi p3, vi p4, vi (nT p0), vi (fn1 p1 G1 w_sf), vi (fn1 p2 G1 w_sf), vi (fn1 p3 G1 w_sf), vi (fn1 p4 G1 w_sf), vr b49, .unset] [(.int 0)]) (fun _ k => XS.iconst X73.here hx rfl (hb hby at_203) k) ?_
          exact J54 _ _ X73 e73 N73 (0 : Int32) (show (0 : Int32) = (fj0_4 p0 p1 p2 p3 p4 G1 w_sf) by unfold fj0_4; rw [if_pos hf75]; try rfl)
        · refine gb (mkF m 157 #[vi p0, vi p1, vi p2, vi p3, vi p4, vi (nT p0), vi (fn1 p1 G1 w_sf), vi (fn1 p2 G1 w_sf), vi (fn1 p3 G1 w_sf), vi (fn1 p4 G1 w_sf), vr b49, .unset] []) (fun _ k => XS.ifNo X73.here hx rfl (hb hby at_154) rfl ((if0 _ _).trans (feq hf75).1) k) ?_
          refine gb (mkF m 159 #[vi p0, vi p1, vi p2, vi p3, vi p4, vi (nT p0), vi (fn1 p1 G1 w_sf), vi (fn1 p2 G1 w_sf), vi (fn1 p3 G1 w_sf), vi (fn1 p4 G1 w_sf), vr b49, .unset] [(.int (nT p0))]) (fun _ k => XS.iload X73.here hx rfl (hb hby at_157) rfl k) ?_
          refine gb (mkF m 160 #[vi p0, vi p1, vi p2, vi p3, vi p4, vi (nT p0), vi (fn1 p1 G1 w_sf), vi (fn1 p2 G1 w_sf), vi (fn1 p3 G1 w_sf), vi (fn1 p4 G1 w_sf), vr b49, .unset] [(.int 2), (.int (nT p0))]) (fun _ k => XS.iconst X73.here hx rfl (hb hby at_159) k) ?_
          refine gb (mkF m 163 #[vi p0, vi p1, vi p2, vi p3, vi p4, vi (nT p0), vi (fn1 p1 G1 w_sf), vi (fn1 p2 G1 w_sf), vi (fn1 p3 G1 w_sf), vi (fn1 p4 G1 w_sf), vr b49, .unset] []) (fun _ k => XS.icmpNo X73.here hx rfl (hb hby at_160) rfl (flt (by rw [show (nT p0) = (2 : Int32) from hf48]; decide)).1 k) ?_
          refine gb (mkF m 165 #[vi p0, vi p1, vi p2, vi p3, vi p4, vi (nT p0), vi (fn1 p1 G1 w_sf), vi (fn1 p2 G1 w_sf), vi (fn1 p3 G1 w_sf), vi (fn1 p4 G1 w_sf), vr b49, .unset] [(.int (fn1 p2 G1 w_sf))]) (fun _ k => XS.iload X73.here hx rfl (hb hby at_163) rfl k) ?_
          obtain ⟨_, _, ⟨T76, L76, k76, n76⟩, -, X76, ⟨Lc76, hQ76, l76, y76, z76⟩, st76⟩ := callS X73 hx (y := mq22) hown (mvT hZ (hW hw 42 rfl)) (mvT hZ (hW hw 43 rfl)) (mvT hZ (hW hw 3 rfl)) (mvT hZ (hW hw 44 rfl)) (by decide) (backOf (W := 0) (rm8 l Z a0' hw [] (fn1 p2 G1 w_sf) G1 w_sf h53 n0 O74 W ) hZ (hW hw 44 rfl) (hW hw 3 rfl) (by decide) (by decide)) (g := (mkF m 165 #[vi p0, vi p1, vi p2, vi p3, vi p4, vi (nT p0), vi (fn1 p1 G1 w_sf), vi (fn1 p2 G1 w_sf), vi (fn1 p3 G1 w_sf), vi (fn1 p4 G1 w_sf), vr b49, .unset] [(.int (fn1 p2 G1 w_sf))])) rfl (by rw [hml]; rfl) (argsL := [(.int (fn1 p2 G1 w_sf))]) (rest := []) (lenOf pd320 rfl) rfl (Nat.le_of_eq rfl) (hb hby at_165) (fun _ _ => ⟨rfl, e73, (by decide : 1 + 0 ≤ _), (by decide : 2 + 0 ≤ _)⟩)
          dsimp only [Pt.U, Pt.locs, Pt.cells, Pt.slots] at X76 l76 y76 z76 st76 hQ76
          subst l76 y76 z76
          obtain ⟨rfl, N76q, e76⟩ := hQ76
          have N76 := Fr.app N73 N76q
          refine gb (mkF m 168 #[vi p0, vi p1, vi p2, vi p3, vi p4, vi (nT p0), vi (fn1 p1 G1 w_sf), vi (fn1 p2 G1 w_sf), vi (fn1 p3 G1 w_sf), vi (fn1 p4 G1 w_sf), vr b49, .unset] [(.int (fn8 (fn1 p2 G1 w_sf) G1 w_sf))]) st76 ?_
          by_cases hf77 : (fn8 (fn1 p2 G1 w_sf) G1 w_sf) = (0 : Int32)
          · refine gb (mkF m 203 #[vi p0, vi p1, vi p2, vi p3, vi p4, vi (nT p0), vi (fn1 p1 G1 w_sf), vi (fn1 p2 G1 w_sf), vi (fn1 p3 G1 w_sf), vi (fn1 p4 G1 w_sf), vr b49, .unset] []) (fun _ k => XS.ifYes X76.here hx rfl (pc0 := 168) (pc' := 203) rfl (hb hby at_168) rfl ((if0 _ _).trans (teq hf77).1) (by decide) (by decide) k) ?_
            refine gb (mkF m 204 #[vi p0, vi p1, vi p2, vi p3, vi p4, vi (nT p0), vi (fn1 p1 G1 w_sf), vi (fn1 p2 G1 w_sf), vi (fn1 p3 G1 w_sf), vi (fn1 p4 G1 w_sf), vr b49, .unset] [(.int 0)]) (fun _ k => XS.iconst X76.here hx rfl (hb hby at_203) k) ?_
            exact J54 _ _ X76 e76 N76 (0 : Int32) (show (0 : Int32) = (fj0_4 p0 p1 p2 p3 p4 G1 w_sf) by unfold fj0_4; rw [if_neg hf75, if_pos hf77]; try rfl)
          · refine gb (mkF m 171 #[vi p0, vi p1, vi p2, vi p3, vi p4, vi (nT p0), vi (fn1 p1 G1 w_sf), vi (fn1 p2 G1 w_sf), vi (fn1 p3 G1 w_sf), vi (fn1 p4 G1 w_sf), vr b49, .unset] []) (fun _ k => XS.ifNo X76.here hx rfl (hb hby at_168) rfl ((if0 _ _).trans (feq hf77).1) k) ?_
            refine gb (mkF m 173 #[vi p0, vi p1, vi p2, vi p3, vi p4, vi (nT p0), vi (fn1 p1 G1 w_sf), vi (fn1 p2 G1 w_sf), vi (fn1 p3 G1 w_sf), vi (fn1 p4 G1 w_sf), vr b49, .unset] [(.int (nT p0))]) (fun _ k => XS.iload X76.here hx rfl (hb hby at_171) rfl k) ?_
            refine gb (mkF m 174 #[vi p0, vi p1, vi p2, vi p3, vi p4, vi (nT p0), vi (fn1 p1 G1 w_sf), vi (fn1 p2 G1 w_sf), vi (fn1 p3 G1 w_sf), vi (fn1 p4 G1 w_sf), vr b49, .unset] [(.int 3), (.int (nT p0))]) (fun _ k => XS.iconst X76.here hx rfl (hb hby at_173) k) ?_
            refine gb (mkF m 185 #[vi p0, vi p1, vi p2, vi p3, vi p4, vi (nT p0), vi (fn1 p1 G1 w_sf), vi (fn1 p2 G1 w_sf), vi (fn1 p3 G1 w_sf), vi (fn1 p4 G1 w_sf), vr b49, .unset] []) (fun _ k => XS.icmpYes X76.here hx rfl (pc0 := 174) (pc' := 185) rfl (hb hby at_174) rfl (tlt (by rw [show (nT p0) = (2 : Int32) from hf48]; decide)).1 (by decide) (by decide) k) ?_
            refine gb (mkF m 187 #[vi p0, vi p1, vi p2, vi p3, vi p4, vi (nT p0), vi (fn1 p1 G1 w_sf), vi (fn1 p2 G1 w_sf), vi (fn1 p3 G1 w_sf), vi (fn1 p4 G1 w_sf), vr b49, .unset] [(.int (nT p0))]) (fun _ k => XS.iload X76.here hx rfl (hb hby at_185) rfl k) ?_
            refine gb (mkF m 188 #[vi p0, vi p1, vi p2, vi p3, vi p4, vi (nT p0), vi (fn1 p1 G1 w_sf), vi (fn1 p2 G1 w_sf), vi (fn1 p3 G1 w_sf), vi (fn1 p4 G1 w_sf), vr b49, .unset] [(.int 4), (.int (nT p0))]) (fun _ k => XS.iconst X76.here hx rfl (hb hby at_187) k) ?_
            refine gb (mkF m 199 #[vi p0, vi p1, vi p2, vi p3, vi p4, vi (nT p0), vi (fn1 p1 G1 w_sf), vi (fn1 p2 G1 w_sf), vi (fn1 p3 G1 w_sf), vi (fn1 p4 G1 w_sf), vr b49, .unset] []) (fun _ k => XS.icmpYes X76.here hx rfl (pc0 := 188) (pc' := 199) rfl (hb hby at_188) rfl (tlt (by rw [show (nT p0) = (2 : Int32) from hf48]; decide)).1 (by decide) (by decide) k) ?_
            refine gb (mkF m 200 #[vi p0, vi p1, vi p2, vi p3, vi p4, vi (nT p0), vi (fn1 p1 G1 w_sf), vi (fn1 p2 G1 w_sf), vi (fn1 p3 G1 w_sf), vi (fn1 p4 G1 w_sf), vr b49, .unset] [(.int 1)]) (fun _ k => XS.iconst X76.here hx rfl (hb hby at_199) k) ?_
            refine gb (mkF m 204 #[vi p0, vi p1, vi p2, vi p3, vi p4, vi (nT p0), vi (fn1 p1 G1 w_sf), vi (fn1 p2 G1 w_sf), vi (fn1 p3 G1 w_sf), vi (fn1 p4 G1 w_sf), vr b49, .unset] [(.int 1)]) (fun _ k => XS.goto X76.here hx rfl (pc0 := 200) (pc' := 204) rfl (hb hby at_200) (by decide) (by decide) k) ?_
            exact J54 _ _ X76 e76 N76 (1 : Int32) (show (1 : Int32) = (fj0_4 p0 p1 p2 p3 p4 G1 w_sf) by unfold fj0_4; rw [if_neg hf75, if_neg hf77]; try rfl)
      · refine gb (mkF m 89 #[vi p0, vi p1, vi p2, vi p3, vi p4, vi (nT p0), vi (fn1 p1 G1 w_sf), vi (fn1 p2 G1 w_sf), vi (fn1 p3 G1 w_sf), vi (fn1 p4 G1 w_sf), .unset, .unset] []) (fun _ k => XS.icmpYes X4.here hx rfl (pc0 := 68) (pc' := 89) rfl (hb hby at_68) rfl (feq hf48).2 (by decide) (by decide) k) ?_
        refine gb (mkF m 91 #[vi p0, vi p1, vi p2, vi p3, vi p4, vi (nT p0), vi (fn1 p1 G1 w_sf), vi (fn1 p2 G1 w_sf), vi (fn1 p3 G1 w_sf), vi (fn1 p4 G1 w_sf), .unset, .unset] [(.int (nT p0))]) (fun _ k => XS.iload X4.here hx rfl (hb hby at_89) rfl k) ?_
        refine gb (mkF m 92 #[vi p0, vi p1, vi p2, vi p3, vi p4, vi (nT p0), vi (fn1 p1 G1 w_sf), vi (fn1 p2 G1 w_sf), vi (fn1 p3 G1 w_sf), vi (fn1 p4 G1 w_sf), .unset, .unset] [(.int 3), (.int (nT p0))]) (fun _ k => XS.iconst X4.here hx rfl (hb hby at_91) k) ?_
        by_cases hf78 : (nT p0) = (3 : Int32)
        · refine gb (mkF m 95 #[vi p0, vi p1, vi p2, vi p3, vi p4, vi (nT p0), vi (fn1 p1 G1 w_sf), vi (fn1 p2 G1 w_sf), vi (fn1 p3 G1 w_sf), vi (fn1 p4 G1 w_sf), .unset, .unset] []) (fun _ k => XS.icmpNo X4.here hx rfl (hb hby at_92) rfl (teq hf78).2 k) ?_
          refine gb (mkF m 96 #[vi p0, vi p1, vi p2, vi p3, vi p4, vi (nT p0), vi (fn1 p1 G1 w_sf), vi (fn1 p2 G1 w_sf), vi (fn1 p3 G1 w_sf), vi (fn1 p4 G1 w_sf), .unset, .unset] [(.int 3)]) (fun _ k => XS.iconst X4.here hx rfl (hb hby at_95) k) ?_
          obtain ⟨T79, h79, k79, X79, e79, E79, A79, st79⟩ := newP X4 hx hZ (hW hw 5 rfl) e4 (g := (mkF m 96 #[vi p0, vi p1, vi p2, vi p3, vi p4, vi (nT p0), vi (fn1 p1 G1 w_sf), vi (fn1 p2 G1 w_sf), vi (fn1 p3 G1 w_sf), vi (fn1 p4 G1 w_sf), .unset, .unset] [(.int 3)])) rfl (hb hby at_96) rfl (by decide) (cap := 3) (by decide) (by decide) (by decide) (by decide)
          obtain ⟨b79, g79⟩ : ∃ z, z = (h0).size := ⟨_, rfl⟩
          rw [← g79] at A79 st79
          have gb79 : n0 ≤ b79 := Nat.le_trans (Nat.le_trans (Nat.le_of_eq O.1.symm) O.2.1) (Nat.le_of_eq g79.symm)
          have sb79 : h0.size ≤ b79 := Nat.le_trans (Keep.refl h0 []).1 (Nat.le_of_eq g79.symm)
          have V79 : Arv Z h79 b79 k79 .char (3 : Int32) [(.int 0), (.int 0), (.int 0)] (.int 0) := (Arv.new A79 (by decide)).pad (pad_rep [] (.int 0) 3)
          refine gb (mkF m 98 #[vi p0, vi p1, vi p2, vi p3, vi p4, vi (nT p0), vi (fn1 p1 G1 w_sf), vi (fn1 p2 G1 w_sf), vi (fn1 p3 G1 w_sf), vi (fn1 p4 G1 w_sf), .unset, .unset] [(.ref b79)]) st79 ?_
          refine gb (mkF m 99 #[vi p0, vi p1, vi p2, vi p3, vi p4, vi (nT p0), vi (fn1 p1 G1 w_sf), vi (fn1 p2 G1 w_sf), vi (fn1 p3 G1 w_sf), vi (fn1 p4 G1 w_sf), .unset, .unset] [(.ref b79), (.ref b79)]) (fun _ k => XS.dup X79.here hx rfl (hb hby at_98) rfl rfl k) ?_
          refine gb (mkF m 100 #[vi p0, vi p1, vi p2, vi p3, vi p4, vi (nT p0), vi (fn1 p1 G1 w_sf), vi (fn1 p2 G1 w_sf), vi (fn1 p3 G1 w_sf), vi (fn1 p4 G1 w_sf), .unset, .unset] [(.int 0), (.ref b79), (.ref b79)]) (fun _ k => XS.iconst X79.here hx rfl (hb hby at_99) k) ?_
          refine gb (mkF m 102 #[vi p0, vi p1, vi p2, vi p3, vi p4, vi (nT p0), vi (fn1 p1 G1 w_sf), vi (fn1 p2 G1 w_sf), vi (fn1 p3 G1 w_sf), vi (fn1 p4 G1 w_sf), .unset, .unset] [(.int (fn1 p1 G1 w_sf)), (.int 0), (.ref b79), (.ref b79)]) (fun _ k => XS.iload X79.here hx rfl (hb hby at_100) rfl k) ?_
          obtain ⟨cl80, Ar80, qa80, Sa80, Na80, Ha80, Ga80⟩ := id V79
          have hin81 : ¬ ((0 : Int32) < 0 ∨ cl80.slots.size ≤ ((0 : Int32)).toNatClampNeg) := inb_of Sa80 ⟨by decide, by decide⟩
          obtain ⟨T81, h81, X81, e81, W81, st81⟩ := stC X79 hx hZ e79 Ar80 (j := (0 : Int32)) hin81 (g := (mkF m 102 #[vi p0, vi p1, vi p2, vi p3, vi p4, vi (nT p0), vi (fn1 p1 G1 w_sf), vi (fn1 p2 G1 w_sf), vi (fn1 p3 G1 w_sf), vi (fn1 p4 G1 w_sf), .unset, .unset] [(.int (fn1 p1 G1 w_sf)), (.int 0), (.ref b79), (.ref b79)])) rfl rfl (hb hby at_102)
          have V81 : Arv Z h81 b79 k79 .char (3 : Int32) [(.int (nar .char (fn1 p1 G1 w_sf))), (.int 0), (.int 0)] (.int 0) := Arv.set Ar80 qa80 Sa80 Na80 Ha80 Ga80 (fits_nar_char _) W81 0 rfl (Nat.le_of_ble_eq_true rfl)
          have N81 := Fr.snoc X81 N4 gb79
          refine gb (mkF m 103 #[vi p0, vi p1, vi p2, vi p3, vi p4, vi (nT p0), vi (fn1 p1 G1 w_sf), vi (fn1 p2 G1 w_sf), vi (fn1 p3 G1 w_sf), vi (fn1 p4 G1 w_sf), .unset, .unset] [(.ref b79)]) st81 ?_
          refine gb (mkF m 104 #[vi p0, vi p1, vi p2, vi p3, vi p4, vi (nT p0), vi (fn1 p1 G1 w_sf), vi (fn1 p2 G1 w_sf), vi (fn1 p3 G1 w_sf), vi (fn1 p4 G1 w_sf), .unset, .unset] [(.ref b79), (.ref b79)]) (fun _ k => XS.dup X81.here hx rfl (hb hby at_103) rfl rfl k) ?_
          refine gb (mkF m 105 #[vi p0, vi p1, vi p2, vi p3, vi p4, vi (nT p0), vi (fn1 p1 G1 w_sf), vi (fn1 p2 G1 w_sf), vi (fn1 p3 G1 w_sf), vi (fn1 p4 G1 w_sf), .unset, .unset] [(.int 1), (.ref b79), (.ref b79)]) (fun _ k => XS.iconst X81.here hx rfl (hb hby at_104) k) ?_
          refine gb (mkF m 107 #[vi p0, vi p1, vi p2, vi p3, vi p4, vi (nT p0), vi (fn1 p1 G1 w_sf), vi (fn1 p2 G1 w_sf), vi (fn1 p3 G1 w_sf), vi (fn1 p4 G1 w_sf), .unset, .unset] [(.int (fn1 p2 G1 w_sf)), (.int 1), (.ref b79), (.ref b79)]) (fun _ k => XS.iload X81.here hx rfl (hb hby at_105) rfl k) ?_
          obtain ⟨cl82, Ar82, qa82, Sa82, Na82, Ha82, Ga82⟩ := id V81
          have hin83 : ¬ ((1 : Int32) < 0 ∨ cl82.slots.size ≤ ((1 : Int32)).toNatClampNeg) := inb_of Sa82 ⟨by decide, by decide⟩
          obtain ⟨T83, h83, X83, e83, W83, st83⟩ := stC X81 hx hZ e81 Ar82 (j := (1 : Int32)) hin83 (g := (mkF m 107 #[vi p0, vi p1, vi p2, vi p3, vi p4, vi (nT p0), vi (fn1 p1 G1 w_sf), vi (fn1 p2 G1 w_sf), vi (fn1 p3 G1 w_sf), vi (fn1 p4 G1 w_sf), .unset, .unset] [(.int (fn1 p2 G1 w_sf)), (.int 1), (.ref b79), (.ref b79)])) rfl rfl (hb hby at_107)
          have V83 : Arv Z h83 b79 k79 .char (3 : Int32) [(.int (nar .char (fn1 p1 G1 w_sf))), (.int (nar .char (fn1 p2 G1 w_sf))), (.int 0)] (.int 0) := Arv.set Ar82 qa82 Sa82 Na82 Ha82 Ga82 (fits_nar_char _) W83 1 rfl (Nat.le_of_ble_eq_true rfl)
          have N83 := Fr.snoc X83 N81 gb79
          refine gb (mkF m 108 #[vi p0, vi p1, vi p2, vi p3, vi p4, vi (nT p0), vi (fn1 p1 G1 w_sf), vi (fn1 p2 G1 w_sf), vi (fn1 p3 G1 w_sf), vi (fn1 p4 G1 w_sf), .unset, .unset] [(.ref b79)]) st83 ?_
          refine gb (mkF m 109 #[vi p0, vi p1, vi p2, vi p3, vi p4, vi (nT p0), vi (fn1 p1 G1 w_sf), vi (fn1 p2 G1 w_sf), vi (fn1 p3 G1 w_sf), vi (fn1 p4 G1 w_sf), .unset, .unset] [(.ref b79), (.ref b79)]) (fun _ k => XS.dup X83.here hx rfl (hb hby at_108) rfl rfl k) ?_
          refine gb (mkF m 110 #[vi p0, vi p1, vi p2, vi p3, vi p4, vi (nT p0), vi (fn1 p1 G1 w_sf), vi (fn1 p2 G1 w_sf), vi (fn1 p3 G1 w_sf), vi (fn1 p4 G1 w_sf), .unset, .unset] [(.int 2), (.ref b79), (.ref b79)]) (fun _ k => XS.iconst X83.here hx rfl (hb hby at_109) k) ?_
          refine gb (mkF m 112 #[vi p0, vi p1, vi p2, vi p3, vi p4, vi (nT p0), vi (fn1 p1 G1 w_sf), vi (fn1 p2 G1 w_sf), vi (fn1 p3 G1 w_sf), vi (fn1 p4 G1 w_sf), .unset, .unset] [(.int (fn1 p3 G1 w_sf)), (.int 2), (.ref b79), (.ref b79)]) (fun _ k => XS.iload X83.here hx rfl (hb hby at_110) rfl k) ?_
          obtain ⟨cl84, Ar84, qa84, Sa84, Na84, Ha84, Ga84⟩ := id V83
          have hin85 : ¬ ((2 : Int32) < 0 ∨ cl84.slots.size ≤ ((2 : Int32)).toNatClampNeg) := inb_of Sa84 ⟨by decide, by decide⟩
          obtain ⟨T85, h85, X85, e85, W85, st85⟩ := stC X83 hx hZ e83 Ar84 (j := (2 : Int32)) hin85 (g := (mkF m 112 #[vi p0, vi p1, vi p2, vi p3, vi p4, vi (nT p0), vi (fn1 p1 G1 w_sf), vi (fn1 p2 G1 w_sf), vi (fn1 p3 G1 w_sf), vi (fn1 p4 G1 w_sf), .unset, .unset] [(.int (fn1 p3 G1 w_sf)), (.int 2), (.ref b79), (.ref b79)])) rfl rfl (hb hby at_112)
          have V85 : Arv Z h85 b79 k79 .char (3 : Int32) [(.int (nar .char (fn1 p1 G1 w_sf))), (.int (nar .char (fn1 p2 G1 w_sf))), (.int (nar .char (fn1 p3 G1 w_sf)))] (.int 0) := Arv.set Ar84 qa84 Sa84 Na84 Ha84 Ga84 (fits_nar_char _) W85 2 rfl (Nat.le_of_ble_eq_true rfl)
          have N85 := Fr.snoc X85 N83 gb79
          refine gb (mkF m 113 #[vi p0, vi p1, vi p2, vi p3, vi p4, vi (nT p0), vi (fn1 p1 G1 w_sf), vi (fn1 p2 G1 w_sf), vi (fn1 p3 G1 w_sf), vi (fn1 p4 G1 w_sf), .unset, .unset] [(.ref b79)]) st85 ?_
          refine gb (mkF m 115 #[vi p0, vi p1, vi p2, vi p3, vi p4, vi (nT p0), vi (fn1 p1 G1 w_sf), vi (fn1 p2 G1 w_sf), vi (fn1 p3 G1 w_sf), vi (fn1 p4 G1 w_sf), vr b79, .unset] []) (fun _ k => XS.astore X85.here hx rfl (hb hby at_113) rfl rfl (l' := #[vi p0, vi p1, vi p2, vi p3, vi p4, vi (nT p0), vi (fn1 p1 G1 w_sf), vi (fn1 p2 G1 w_sf), vi (fn1 p3 G1 w_sf), vi (fn1 p4 G1 w_sf), vr b79, .unset]) rfl k) ?_
          refine gb (mkF m 143 #[vi p0, vi p1, vi p2, vi p3, vi p4, vi (nT p0), vi (fn1 p1 G1 w_sf), vi (fn1 p2 G1 w_sf), vi (fn1 p3 G1 w_sf), vi (fn1 p4 G1 w_sf), vr b79, .unset] []) (fun _ k => XS.goto X85.here hx rfl (pc0 := 115) (pc' := 143) rfl (hb hby at_115) (by decide) (by decide) k) ?_
          refine gb (mkF m 145 #[vi p0, vi p1, vi p2, vi p3, vi p4, vi (nT p0), vi (fn1 p1 G1 w_sf), vi (fn1 p2 G1 w_sf), vi (fn1 p3 G1 w_sf), vi (fn1 p4 G1 w_sf), vr b79, .unset] [(.int (nT p0))]) (fun _ k => XS.iload X85.here hx rfl (hb hby at_143) rfl k) ?_
          refine gb (mkF m 146 #[vi p0, vi p1, vi p2, vi p3, vi p4, vi (nT p0), vi (fn1 p1 G1 w_sf), vi (fn1 p2 G1 w_sf), vi (fn1 p3 G1 w_sf), vi (fn1 p4 G1 w_sf), vr b79, .unset] [(.int 1), (.int (nT p0))]) (fun _ k => XS.iconst X85.here hx rfl (hb hby at_145) k) ?_
          have J86 : ∀ (T' : State) (lc : List Loc) (X' : Stand p l e room_1 (s.setVm s.vm) m #[(.int p0), (.int p1), (.int p2), (.int p3), (.int p4)] below meth c T' lc 1 3) (eT : T'.heap = h85) (N' : Fr n0 lc) (zj86_0 : Int32) (hz86_0 : zj86_0 = (fj0_7 p0 p1 p2 p3 p4 G1 w_sf)), Gl p e below (PosW 24 1152 (Q0 Z p0 p1 p2 p3 p4 G1 w_sf h0 n0) s) T' (mkF m 204 #[vi p0, vi p1, vi p2, vi p3, vi p4, vi (nT p0), vi (fn1 p1 G1 w_sf), vi (fn1 p2 G1 w_sf), vi (fn1 p3 G1 w_sf), vi (fn1 p4 G1 w_sf), vr b79, .unset] [(.int zj86_0)]) := by
            intro T' lc X' eT N' zj86_0 hz86_0
            subst hz86_0
            refine gb (mkF m 206 #[vi p0, vi p1, vi p2, vi p3, vi p4, vi (nT p0), vi (fn1 p1 G1 w_sf), vi (fn1 p2 G1 w_sf), vi (fn1 p3 G1 w_sf), vi (fn1 p4 G1 w_sf), vr b79, vi (fj0_7 p0 p1 p2 p3 p4 G1 w_sf)] []) (fun _ k => XS.istore X'.here hx rfl (hb hby at_204) rfl (l' := #[vi p0, vi p1, vi p2, vi p3, vi p4, vi (nT p0), vi (fn1 p1 G1 w_sf), vi (fn1 p2 G1 w_sf), vi (fn1 p3 G1 w_sf), vi (fn1 p4 G1 w_sf), vr b79, vi (fj0_7 p0 p1 p2 p3 p4 G1 w_sf)]) rfl k) ?_
            have O88 := ((((O.ext E79).wr W81 gb79).wr W83 gb79).wr W85 gb79)
            have K89 := (((((Keep.refl h0 []).ext E79).wr W81 (Or.inr sb79)).wr W83 (Or.inr sb79)).wr W85 (Or.inr sb79))
            obtain ⟨T87, h87, X87, e87, E87, A87, D87, -, st87⟩ := newO X' hx hZ hown (hW hw 6 rfl) (hW hw 7 rfl) (hW hw 8 rfl) eT (g := (mkF m 206 #[vi p0, vi p1, vi p2, vi p3, vi p4, vi (nT p0), vi (fn1 p1 G1 w_sf), vi (fn1 p2 G1 w_sf), vi (fn1 p3 G1 w_sf), vi (fn1 p4 G1 w_sf), vr b79, vi (fj0_7 p0 p1 p2 p3 p4 G1 w_sf)] [])) rfl (hb hby at_206) (by decide) (by decide)
            obtain ⟨b87, g87⟩ : ∃ z, z = (h85).size := ⟨_, rfl⟩
            rw [← g87] at A87 D87 st87
            have gb87 : n0 ≤ b87 := Nat.le_trans (Nat.le_trans (Nat.le_of_eq O88.1.symm) O88.2.1) (Nat.le_of_eq g87.symm)
            have sb87 : h0.size ≤ b87 := Nat.le_trans K89.1 (Nat.le_of_eq g87.symm)
            have ne87_0 : b79 ≠ b87 := Nat.ne_of_lt (Nat.lt_of_lt_of_le V85.lt (Nat.le_of_eq g87.symm))
            have D87_value : Fld Z h87 b87 "java/lang/String" "value" "[B" .null := D87 (Or.inr (hW hw 21 rfl)) (ty := (.array .byte)) (by decide)
            have D87_coder : Fld Z h87 b87 "java/lang/String" "coder" "B" (.int 0) := D87 (Or.inr (hW hw 22 rfl)) (ty := .byte) (by decide)
            refine gb (mkF m 209 #[vi p0, vi p1, vi p2, vi p3, vi p4, vi (nT p0), vi (fn1 p1 G1 w_sf), vi (fn1 p2 G1 w_sf), vi (fn1 p3 G1 w_sf), vi (fn1 p4 G1 w_sf), vr b79, vi (fj0_7 p0 p1 p2 p3 p4 G1 w_sf)] [(.ref b87)]) st87 ?_
            refine gb (mkF m 210 #[vi p0, vi p1, vi p2, vi p3, vi p4, vi (nT p0), vi (fn1 p1 G1 w_sf), vi (fn1 p2 G1 w_sf), vi (fn1 p3 G1 w_sf), vi (fn1 p4 G1 w_sf), vr b79, vi (fj0_7 p0 p1 p2 p3 p4 G1 w_sf)] [(.ref b87), (.ref b87)]) (fun _ k => XS.dup X87.here hx rfl (hb hby at_209) rfl rfl k) ?_
            refine gb (mkF m 212 #[vi p0, vi p1, vi p2, vi p3, vi p4, vi (nT p0), vi (fn1 p1 G1 w_sf), vi (fn1 p2 G1 w_sf), vi (fn1 p3 G1 w_sf), vi (fn1 p4 G1 w_sf), vr b79, vi (fj0_7 p0 p1 p2 p3 p4 G1 w_sf)] [(.ref b79), (.ref b87), (.ref b87)]) (fun _ k => XS.aload X87.here hx rfl (hb hby at_210) rfl rfl k) ?_
            have f91 := (Arv.ext V85 E87)
            have O92 := (O88.ext E87)
            obtain ⟨_, _, ⟨T90, L90, k90, n90⟩, -, X90, ⟨Lc90, hQ90, l90, y90, z90⟩, st90⟩ := X87.specialBack hx (y := mq19) rfl hown (mvT hZ (hW hw 9 rfl)) (mvT hZ (hW hw 10 rfl)) (mvT hZ (hW hw 11 rfl)) (by decide) (backOf (W := 1) (rm2k3 l Z a0' hw [] b87 b79 k79 (nar .char (fn1 p1 G1 w_sf)) (nar .char (fn1 p2 G1 w_sf)) (nar .char (fn1 p3 G1 w_sf)) G1 w_sf h87 n0 O92 W A87 D87_value D87_coder gb87 f91 (nar_nar _) (nar_nar _) (nar_nar _)) hZ (hW hw 11 rfl) (hW hw 8 rfl) (by decide) (by decide)) (g := (mkF m 212 #[vi p0, vi p1, vi p2, vi p3, vi p4, vi (nT p0), vi (fn1 p1 G1 w_sf), vi (fn1 p2 G1 w_sf), vi (fn1 p3 G1 w_sf), vi (fn1 p4 G1 w_sf), vr b79, vi (fj0_7 p0 p1 p2 p3 p4 G1 w_sf)] [(.ref b79), (.ref b87), (.ref b87)])) rfl (by rw [hml]; rfl) (Steps.refl _) (a := b87) (argsL := [(.ref b79)]) (rest := [(.ref b87)]) (lenOf pd318 rfl) rfl (Nat.le_of_eq rfl) (hb hby at_212) (fun _ _ => ⟨rfl, e87, (by decide : 2 + 2 ≤ _), (by decide : 7 + 9 ≤ _)⟩)
            dsimp only [Pt.U, Pt.locs, Pt.cells, Pt.slots] at X90 l90 y90 z90 st90 hQ90
            subst l90 y90 z90
            obtain ⟨b_90, kb_90, rfl, N90q, Kc90, fc90_0, fc90_1⟩ := hQ90
            have N90 := Fr.app N' N90q
            refine gb (mkF m 215 #[vi p0, vi p1, vi p2, vi p3, vi p4, vi (nT p0), vi (fn1 p1 G1 w_sf), vi (fn1 p2 G1 w_sf), vi (fn1 p3 G1 w_sf), vi (fn1 p4 G1 w_sf), vr b79, vi (fj0_7 p0 p1 p2 p3 p4 G1 w_sf)] [(.ref b87)]) (fun _ k => st90.trans k) ?_
            rcases fc90_1 with ⟨hN, hcd, hV⟩ | ⟨hN, hcd, hV⟩
            · have f94 := (Exa.keep A87 Kc90)
              have O95 := (O92.keep Kc90 (allS gb87 all0))
              obtain ⟨_, _, ⟨T93, L93, k93, n93⟩, -, X93, ⟨Lc93, hQ93, l93, y93, z93⟩, st93⟩ := callS X90 hx (y := mq20) hown (mvT hZ (hW hw 27 rfl)) (mvT hZ (hW hw 28 rfl)) (mvT hZ (hW hw 29 rfl)) (mvT hZ (hW hw 30 rfl)) (by decide) (backOf (W := 0) (rm53A l Z a0' hw [] b87 b_90 kb_90 (bL (nar .char (fn1 p1 G1 w_sf))) (bL (nar .char (fn1 p2 G1 w_sf))) (bL (nar .char (fn1 p3 G1 w_sf))) G1 w_sf T90.heap n0 O95 W f94 fc90_0 hcd hV) hZ (hW hw 30 rfl) (hW hw 29 rfl) (by decide) (by decide)) (g := (mkF m 215 #[vi p0, vi p1, vi p2, vi p3, vi p4, vi (nT p0), vi (fn1 p1 G1 w_sf), vi (fn1 p2 G1 w_sf), vi (fn1 p3 G1 w_sf), vi (fn1 p4 G1 w_sf), vr b79, vi (fj0_7 p0 p1 p2 p3 p4 G1 w_sf)] [(.ref b87)])) rfl (by rw [hml]; rfl) (argsL := [(.ref b87)]) (rest := []) (lenOf pd319 rfl) rfl (Nat.le_of_eq rfl) (hb hby at_215) (fun _ _ => ⟨rfl, rfl, (by decide : 4 + 0 ≤ _), (by decide : 16 + 0 ≤ _)⟩)
              dsimp only [Pt.U, Pt.locs, Pt.cells, Pt.slots] at X93 l93 y93 z93 st93 hQ93
              subst l93 y93 z93
              obtain ⟨rfl, N93q, e93⟩ := hQ93
              have N93 := Fr.app N90 N93q
              refine gb (mkF m 218 #[vi p0, vi p1, vi p2, vi p3, vi p4, vi (nT p0), vi (fn1 p1 G1 w_sf), vi (fn1 p2 G1 w_sf), vi (fn1 p3 G1 w_sf), vi (fn1 p4 G1 w_sf), vr b79, vi (fj0_7 p0 p1 p2 p3 p4 G1 w_sf)] [(.int (fn53A (bL (nar .char (fn1 p1 G1 w_sf))) (bL (nar .char (fn1 p2 G1 w_sf))) (bL (nar .char (fn1 p3 G1 w_sf))) G1 w_sf))]) st93 ?_
              refine gb (mkF m 220 #[vi p0, vi p1, vi p2, vi p3, vi p4, vi (nT p0), vi (fn1 p1 G1 w_sf), vi (fn1 p2 G1 w_sf), vi (fn1 p3 G1 w_sf), vi (fn1 p4 G1 w_sf), vr b79, vi (fj0_7 p0 p1 p2 p3 p4 G1 w_sf)] [(.int (fj0_7 p0 p1 p2 p3 p4 G1 w_sf)), (.int (fn53A (bL (nar .char (fn1 p1 G1 w_sf))) (bL (nar .char (fn1 p2 G1 w_sf))) (bL (nar .char (fn1 p3 G1 w_sf))) G1 w_sf))]) (fun _ k => XS.iload X93.here hx rfl (hb hby at_218) rfl k) ?_
              have J96 : ∀ (T' : State) (lc : List Loc) (X' : Stand p l e room_1 (s.setVm s.vm) m #[(.int p0), (.int p1), (.int p2), (.int p3), (.int p4)] below meth c T' lc 4 16) (eT : T'.heap = T90.heap) (N' : Fr n0 lc) (zj96_0 : Int32) (hz96_0 : zj96_0 = (fj0_8 p0 p1 p2 p3 p4 G1 w_sf)), Gl p e below (PosW 24 1152 (Q0 Z p0 p1 p2 p3 p4 G1 w_sf h0 n0) s) T' (mkF m 228 #[vi p0, vi p1, vi p2, vi p3, vi p4, vi (nT p0), vi (fn1 p1 G1 w_sf), vi (fn1 p2 G1 w_sf), vi (fn1 p3 G1 w_sf), vi (fn1 p4 G1 w_sf), vr b79, vi (fj0_7 p0 p1 p2 p3 p4 G1 w_sf)] [(.int zj96_0)]) := by
                intro T' lc X' eT N' zj96_0 hz96_0
                subst hz96_0
                have sz97 := (Nat.le_trans (Nat.le_trans (Nat.le_trans (Nat.le_trans (Nat.le_trans (Nat.le_trans (Nat.le_refl h0.size) E79.1) (Nat.le_of_eq W81.size.symm)) (Nat.le_of_eq W83.size.symm)) (Nat.le_of_eq W85.size.symm)) E87.1) Kc90.1)
                exact Gl.outNW X' hS (by rw [eT]; exact sz97) hx hk (t := .boolean) Bd.returns (by simp) (hb hby at_228) ⟨(congrArg (fun z => some (Value.int z)) (show nar .boolean (fj0_8 p0 p1 p2 p3 p4 G1 w_sf) = fn0 p0 p1 p2 p3 p4 G1 w_sf by unfold fn0; rw [if_neg hf5, if_neg hf22, if_neg hf48, if_pos hf78, if_neg hN]; try rfl)), N'⟩ (by decide) (by decide)
              by_cases hf98 : (fn53A (bL (nar .char (fn1 p1 G1 w_sf))) (bL (nar .char (fn1 p2 G1 w_sf))) (bL (nar .char (fn1 p3 G1 w_sf))) G1 w_sf) = (fj0_7 p0 p1 p2 p3 p4 G1 w_sf)
              · refine gb (mkF m 223 #[vi p0, vi p1, vi p2, vi p3, vi p4, vi (nT p0), vi (fn1 p1 G1 w_sf), vi (fn1 p2 G1 w_sf), vi (fn1 p3 G1 w_sf), vi (fn1 p4 G1 w_sf), vr b79, vi (fj0_7 p0 p1 p2 p3 p4 G1 w_sf)] []) (fun _ k => XS.icmpNo X93.here hx rfl (hb hby at_220) rfl (teq hf98).2 k) ?_
                refine gb (mkF m 224 #[vi p0, vi p1, vi p2, vi p3, vi p4, vi (nT p0), vi (fn1 p1 G1 w_sf), vi (fn1 p2 G1 w_sf), vi (fn1 p3 G1 w_sf), vi (fn1 p4 G1 w_sf), vr b79, vi (fj0_7 p0 p1 p2 p3 p4 G1 w_sf)] [(.int 1)]) (fun _ k => XS.iconst X93.here hx rfl (hb hby at_223) k) ?_
                refine gb (mkF m 228 #[vi p0, vi p1, vi p2, vi p3, vi p4, vi (nT p0), vi (fn1 p1 G1 w_sf), vi (fn1 p2 G1 w_sf), vi (fn1 p3 G1 w_sf), vi (fn1 p4 G1 w_sf), vr b79, vi (fj0_7 p0 p1 p2 p3 p4 G1 w_sf)] [(.int 1)]) (fun _ k => XS.goto X93.here hx rfl (pc0 := 224) (pc' := 228) rfl (hb hby at_224) (by decide) (by decide) k) ?_
                exact J96 _ _ X93 e93 N93 (1 : Int32) (show (1 : Int32) = (fj0_8 p0 p1 p2 p3 p4 G1 w_sf) by unfold fj0_8; rw [if_pos hf98]; try rfl)
              · refine gb (mkF m 227 #[vi p0, vi p1, vi p2, vi p3, vi p4, vi (nT p0), vi (fn1 p1 G1 w_sf), vi (fn1 p2 G1 w_sf), vi (fn1 p3 G1 w_sf), vi (fn1 p4 G1 w_sf), vr b79, vi (fj0_7 p0 p1 p2 p3 p4 G1 w_sf)] []) (fun _ k => XS.icmpYes X93.here hx rfl (pc0 := 220) (pc' := 227) rfl (hb hby at_220) rfl (feq hf98).2 (by decide) (by decide) k) ?_
                refine gb (mkF m 228 #[vi p0, vi p1, vi p2, vi p3, vi p4, vi (nT p0), vi (fn1 p1 G1 w_sf), vi (fn1 p2 G1 w_sf), vi (fn1 p3 G1 w_sf), vi (fn1 p4 G1 w_sf), vr b79, vi (fj0_7 p0 p1 p2 p3 p4 G1 w_sf)] [(.int 0)]) (fun _ k => XS.iconst X93.here hx rfl (hb hby at_227) k) ?_
                exact J96 _ _ X93 e93 N93 (0 : Int32) (show (0 : Int32) = (fj0_8 p0 p1 p2 p3 p4 G1 w_sf) by unfold fj0_8; rw [if_neg hf98]; try rfl)
            · have f100 := (Exa.keep A87 Kc90)
              have O101 := (O92.keep Kc90 (allS gb87 all0))
              obtain ⟨_, _, ⟨T99, L99, k99, n99⟩, -, X99, ⟨Lc99, hQ99, l99, y99, z99⟩, st99⟩ := callS X90 hx (y := mq20) hown (mvT hZ (hW hw 27 rfl)) (mvT hZ (hW hw 28 rfl)) (mvT hZ (hW hw 29 rfl)) (mvT hZ (hW hw 30 rfl)) (by decide) (backOf (W := 0) (rm53U l Z a0' hw [] b87 b_90 kb_90 (bA (nar .char (fn1 p1 G1 w_sf))) (bB (nar .char (fn1 p1 G1 w_sf))) (bA (nar .char (fn1 p2 G1 w_sf))) (bB (nar .char (fn1 p2 G1 w_sf))) (bA (nar .char (fn1 p3 G1 w_sf))) (bB (nar .char (fn1 p3 G1 w_sf))) G1 w_sf T90.heap n0 O101 W f100 fc90_0 hcd hV) hZ (hW hw 30 rfl) (hW hw 29 rfl) (by decide) (by decide)) (g := (mkF m 215 #[vi p0, vi p1, vi p2, vi p3, vi p4, vi (nT p0), vi (fn1 p1 G1 w_sf), vi (fn1 p2 G1 w_sf), vi (fn1 p3 G1 w_sf), vi (fn1 p4 G1 w_sf), vr b79, vi (fj0_7 p0 p1 p2 p3 p4 G1 w_sf)] [(.ref b87)])) rfl (by rw [hml]; rfl) (argsL := [(.ref b87)]) (rest := []) (lenOf pd319 rfl) rfl (Nat.le_of_eq rfl) (hb hby at_215) (fun _ _ => ⟨rfl, rfl, (by decide : 4 + 0 ≤ _), (by decide : 16 + 0 ≤ _)⟩)
              dsimp only [Pt.U, Pt.locs, Pt.cells, Pt.slots] at X99 l99 y99 z99 st99 hQ99
              subst l99 y99 z99
              obtain ⟨rfl, N99q, e99⟩ := hQ99
              have N99 := Fr.app N90 N99q
              refine gb (mkF m 218 #[vi p0, vi p1, vi p2, vi p3, vi p4, vi (nT p0), vi (fn1 p1 G1 w_sf), vi (fn1 p2 G1 w_sf), vi (fn1 p3 G1 w_sf), vi (fn1 p4 G1 w_sf), vr b79, vi (fj0_7 p0 p1 p2 p3 p4 G1 w_sf)] [(.int (fn53U (bA (nar .char (fn1 p1 G1 w_sf))) (bB (nar .char (fn1 p1 G1 w_sf))) (bA (nar .char (fn1 p2 G1 w_sf))) (bB (nar .char (fn1 p2 G1 w_sf))) (bA (nar .char (fn1 p3 G1 w_sf))) (bB (nar .char (fn1 p3 G1 w_sf))) G1 w_sf))]) st99 ?_
              refine gb (mkF m 220 #[vi p0, vi p1, vi p2, vi p3, vi p4, vi (nT p0), vi (fn1 p1 G1 w_sf), vi (fn1 p2 G1 w_sf), vi (fn1 p3 G1 w_sf), vi (fn1 p4 G1 w_sf), vr b79, vi (fj0_7 p0 p1 p2 p3 p4 G1 w_sf)] [(.int (fj0_7 p0 p1 p2 p3 p4 G1 w_sf)), (.int (fn53U (bA (nar .char (fn1 p1 G1 w_sf))) (bB (nar .char (fn1 p1 G1 w_sf))) (bA (nar .char (fn1 p2 G1 w_sf))) (bB (nar .char (fn1 p2 G1 w_sf))) (bA (nar .char (fn1 p3 G1 w_sf))) (bB (nar .char (fn1 p3 G1 w_sf))) G1 w_sf))]) (fun _ k => XS.iload X99.here hx rfl (hb hby at_218) rfl k) ?_
              have J102 : ∀ (T' : State) (lc : List Loc) (X' : Stand p l e room_1 (s.setVm s.vm) m #[(.int p0), (.int p1), (.int p2), (.int p3), (.int p4)] below meth c T' lc 4 16) (eT : T'.heap = T90.heap) (N' : Fr n0 lc) (zj102_0 : Int32) (hz102_0 : zj102_0 = (fj0_9 p0 p1 p2 p3 p4 G1 w_sf)), Gl p e below (PosW 24 1152 (Q0 Z p0 p1 p2 p3 p4 G1 w_sf h0 n0) s) T' (mkF m 228 #[vi p0, vi p1, vi p2, vi p3, vi p4, vi (nT p0), vi (fn1 p1 G1 w_sf), vi (fn1 p2 G1 w_sf), vi (fn1 p3 G1 w_sf), vi (fn1 p4 G1 w_sf), vr b79, vi (fj0_7 p0 p1 p2 p3 p4 G1 w_sf)] [(.int zj102_0)]) := by
                intro T' lc X' eT N' zj102_0 hz102_0
                subst hz102_0
                have sz103 := (Nat.le_trans (Nat.le_trans (Nat.le_trans (Nat.le_trans (Nat.le_trans (Nat.le_trans (Nat.le_refl h0.size) E79.1) (Nat.le_of_eq W81.size.symm)) (Nat.le_of_eq W83.size.symm)) (Nat.le_of_eq W85.size.symm)) E87.1) Kc90.1)
                exact Gl.outNW X' hS (by rw [eT]; exact sz103) hx hk (t := .boolean) Bd.returns (by simp) (hb hby at_228) ⟨(congrArg (fun z => some (Value.int z)) (show nar .boolean (fj0_9 p0 p1 p2 p3 p4 G1 w_sf) = fn0 p0 p1 p2 p3 p4 G1 w_sf by unfold fn0; rw [if_neg hf5, if_neg hf22, if_neg hf48, if_pos hf78, if_pos hN]; try rfl)), N'⟩ (by decide) (by decide)
              by_cases hf104 : (fn53U (bA (nar .char (fn1 p1 G1 w_sf))) (bB (nar .char (fn1 p1 G1 w_sf))) (bA (nar .char (fn1 p2 G1 w_sf))) (bB (nar .char (fn1 p2 G1 w_sf))) (bA (nar .char (fn1 p3 G1 w_sf))) (bB (nar .char (fn1 p3 G1 w_sf))) G1 w_sf) = (fj0_7 p0 p1 p2 p3 p4 G1 w_sf)
              · refine gb (mkF m 223 #[vi p0, vi p1, vi p2, vi p3, vi p4, vi (nT p0), vi (fn1 p1 G1 w_sf), vi (fn1 p2 G1 w_sf), vi (fn1 p3 G1 w_sf), vi (fn1 p4 G1 w_sf), vr b79, vi (fj0_7 p0 p1 p2 p3 p4 G1 w_sf)] []) (fun _ k => XS.icmpNo X99.here hx rfl (hb hby at_220) rfl (teq hf104).2 k) ?_
                refine gb (mkF m 224 #[vi p0, vi p1, vi p2, vi p3, vi p4, vi (nT p0), vi (fn1 p1 G1 w_sf), vi (fn1 p2 G1 w_sf), vi (fn1 p3 G1 w_sf), vi (fn1 p4 G1 w_sf), vr b79, vi (fj0_7 p0 p1 p2 p3 p4 G1 w_sf)] [(.int 1)]) (fun _ k => XS.iconst X99.here hx rfl (hb hby at_223) k) ?_
                refine gb (mkF m 228 #[vi p0, vi p1, vi p2, vi p3, vi p4, vi (nT p0), vi (fn1 p1 G1 w_sf), vi (fn1 p2 G1 w_sf), vi (fn1 p3 G1 w_sf), vi (fn1 p4 G1 w_sf), vr b79, vi (fj0_7 p0 p1 p2 p3 p4 G1 w_sf)] [(.int 1)]) (fun _ k => XS.goto X99.here hx rfl (pc0 := 224) (pc' := 228) rfl (hb hby at_224) (by decide) (by decide) k) ?_
                exact J102 _ _ X99 e99 N99 (1 : Int32) (show (1 : Int32) = (fj0_9 p0 p1 p2 p3 p4 G1 w_sf) by unfold fj0_9; rw [if_pos hf104]; try rfl)
              · refine gb (mkF m 227 #[vi p0, vi p1, vi p2, vi p3, vi p4, vi (nT p0), vi (fn1 p1 G1 w_sf), vi (fn1 p2 G1 w_sf), vi (fn1 p3 G1 w_sf), vi (fn1 p4 G1 w_sf), vr b79, vi (fj0_7 p0 p1 p2 p3 p4 G1 w_sf)] []) (fun _ k => XS.icmpYes X99.here hx rfl (pc0 := 220) (pc' := 227) rfl (hb hby at_220) rfl (feq hf104).2 (by decide) (by decide) k) ?_
                refine gb (mkF m 228 #[vi p0, vi p1, vi p2, vi p3, vi p4, vi (nT p0), vi (fn1 p1 G1 w_sf), vi (fn1 p2 G1 w_sf), vi (fn1 p3 G1 w_sf), vi (fn1 p4 G1 w_sf), vr b79, vi (fj0_7 p0 p1 p2 p3 p4 G1 w_sf)] [(.int 0)]) (fun _ k => XS.iconst X99.here hx rfl (hb hby at_227) k) ?_
                exact J102 _ _ X99 e99 N99 (0 : Int32) (show (0 : Int32) = (fj0_9 p0 p1 p2 p3 p4 G1 w_sf) by unfold fj0_9; rw [if_neg hf104]; try rfl)
          refine gb (mkF m 149 #[vi p0, vi p1, vi p2, vi p3, vi p4, vi (nT p0), vi (fn1 p1 G1 w_sf), vi (fn1 p2 G1 w_sf), vi (fn1 p3 G1 w_sf), vi (fn1 p4 G1 w_sf), vr b79, .unset] []) (fun _ k => XS.icmpNo X85.here hx rfl (hb hby at_146) rfl (flt (by rw [show (nT p0) = (3 : Int32) from hf78]; decide)).1 k) ?_
          refine gb (mkF m 151 #[vi p0, vi p1, vi p2, vi p3, vi p4, vi (nT p0), vi (fn1 p1 G1 w_sf), vi (fn1 p2 G1 w_sf), vi (fn1 p3 G1 w_sf), vi (fn1 p4 G1 w_sf), vr b79, .unset] [(.int (fn1 p1 G1 w_sf))]) (fun _ k => XS.iload X85.here hx rfl (hb hby at_149) rfl k) ?_
          have O106 := ((((O.ext E79).wr W81 gb79).wr W83 gb79).wr W85 gb79)
          obtain ⟨_, _, ⟨T105, L105, k105, n105⟩, -, X105, ⟨Lc105, hQ105, l105, y105, z105⟩, st105⟩ := callS X85 hx (y := mq22) hown (mvT hZ (hW hw 42 rfl)) (mvT hZ (hW hw 43 rfl)) (mvT hZ (hW hw 3 rfl)) (mvT hZ (hW hw 44 rfl)) (by decide) (backOf (W := 0) (rm8 l Z a0' hw [] (fn1 p1 G1 w_sf) G1 w_sf h85 n0 O106 W ) hZ (hW hw 44 rfl) (hW hw 3 rfl) (by decide) (by decide)) (g := (mkF m 151 #[vi p0, vi p1, vi p2, vi p3, vi p4, vi (nT p0), vi (fn1 p1 G1 w_sf), vi (fn1 p2 G1 w_sf), vi (fn1 p3 G1 w_sf), vi (fn1 p4 G1 w_sf), vr b79, .unset] [(.int (fn1 p1 G1 w_sf))])) rfl (by rw [hml]; rfl) (argsL := [(.int (fn1 p1 G1 w_sf))]) (rest := []) (lenOf pd320 rfl) rfl (Nat.le_of_eq rfl) (hb hby at_151) (fun _ _ => ⟨rfl, e85, (by decide : 1 + 0 ≤ _), (by decide : 3 + 0 ≤ _)⟩)
          dsimp only [Pt.U, Pt.locs, Pt.cells, Pt.slots] at X105 l105 y105 z105 st105 hQ105
          subst l105 y105 z105
          obtain ⟨rfl, N105q, e105⟩ := hQ105
          have N105 := Fr.app N85 N105q
          refine gb (mkF m 154 #[vi p0, vi p1, vi p2, vi p3, vi p4, vi (nT p0), vi (fn1 p1 G1 w_sf), vi (fn1 p2 G1 w_sf), vi (fn1 p3 G1 w_sf), vi (fn1 p4 G1 w_sf), vr b79, .unset] [(.int (fn8 (fn1 p1 G1 w_sf) G1 w_sf))]) st105 ?_
          by_cases hf107 : (fn8 (fn1 p1 G1 w_sf) G1 w_sf) = (0 : Int32)
          · refine gb (mkF m 203 #[vi p0, vi p1, vi p2, vi p3, vi p4, vi (nT p0), vi (fn1 p1 G1 w_sf), vi (fn1 p2 G1 w_sf), vi (fn1 p3 G1 w_sf), vi (fn1 p4 G1 w_sf), vr b79, .unset] []) (fun _ k => XS.ifYes X105.here hx rfl (pc0 := 154) (pc' := 203) rfl (hb hby at_154) rfl ((if0 _ _).trans (teq hf107).1) (by decide) (by decide) k) ?_
            refine gb (mkF m 204 #[vi p0, vi p1, vi p2, vi p3, vi p4, vi (nT p0), vi (fn1 p1 G1 w_sf), vi (fn1 p2 G1 w_sf), vi (fn1 p3 G1 w_sf), vi (fn1 p4 G1 w_sf), vr b79, .unset] [(.int 0)]) (fun _ k => XS.iconst X105.here hx rfl (hb hby at_203) k) ?_
            exact J86 _ _ X105 e105 N105 (0 : Int32) (show (0 : Int32) = (fj0_7 p0 p1 p2 p3 p4 G1 w_sf) by unfold fj0_7; rw [if_pos hf107]; try rfl)
          · refine gb (mkF m 157 #[vi p0, vi p1, vi p2, vi p3, vi p4, vi (nT p0), vi (fn1 p1 G1 w_sf), vi (fn1 p2 G1 w_sf), vi (fn1 p3 G1 w_sf), vi (fn1 p4 G1 w_sf), vr b79, .unset] []) (fun _ k => XS.ifNo X105.here hx rfl (hb hby at_154) rfl ((if0 _ _).trans (feq hf107).1) k) ?_
            refine gb (mkF m 159 #[vi p0, vi p1, vi p2, vi p3, vi p4, vi (nT p0), vi (fn1 p1 G1 w_sf), vi (fn1 p2 G1 w_sf), vi (fn1 p3 G1 w_sf), vi (fn1 p4 G1 w_sf), vr b79, .unset] [(.int (nT p0))]) (fun _ k => XS.iload X105.here hx rfl (hb hby at_157) rfl k) ?_
            refine gb (mkF m 160 #[vi p0, vi p1, vi p2, vi p3, vi p4, vi (nT p0), vi (fn1 p1 G1 w_sf), vi (fn1 p2 G1 w_sf), vi (fn1 p3 G1 w_sf), vi (fn1 p4 G1 w_sf), vr b79, .unset] [(.int 2), (.int (nT p0))]) (fun _ k => XS.iconst X105.here hx rfl (hb hby at_159) k) ?_
            refine gb (mkF m 163 #[vi p0, vi p1, vi p2, vi p3, vi p4, vi (nT p0), vi (fn1 p1 G1 w_sf), vi (fn1 p2 G1 w_sf), vi (fn1 p3 G1 w_sf), vi (fn1 p4 G1 w_sf), vr b79, .unset] []) (fun _ k => XS.icmpNo X105.here hx rfl (hb hby at_160) rfl (flt (by rw [show (nT p0) = (3 : Int32) from hf78]; decide)).1 k) ?_
            refine gb (mkF m 165 #[vi p0, vi p1, vi p2, vi p3, vi p4, vi (nT p0), vi (fn1 p1 G1 w_sf), vi (fn1 p2 G1 w_sf), vi (fn1 p3 G1 w_sf), vi (fn1 p4 G1 w_sf), vr b79, .unset] [(.int (fn1 p2 G1 w_sf))]) (fun _ k => XS.iload X105.here hx rfl (hb hby at_163) rfl k) ?_
            obtain ⟨_, _, ⟨T108, L108, k108, n108⟩, -, X108, ⟨Lc108, hQ108, l108, y108, z108⟩, st108⟩ := callS X105 hx (y := mq22) hown (mvT hZ (hW hw 42 rfl)) (mvT hZ (hW hw 43 rfl)) (mvT hZ (hW hw 3 rfl)) (mvT hZ (hW hw 44 rfl)) (by decide) (backOf (W := 0) (rm8 l Z a0' hw [] (fn1 p2 G1 w_sf) G1 w_sf h85 n0 O106 W ) hZ (hW hw 44 rfl) (hW hw 3 rfl) (by decide) (by decide)) (g := (mkF m 165 #[vi p0, vi p1, vi p2, vi p3, vi p4, vi (nT p0), vi (fn1 p1 G1 w_sf), vi (fn1 p2 G1 w_sf), vi (fn1 p3 G1 w_sf), vi (fn1 p4 G1 w_sf), vr b79, .unset] [(.int (fn1 p2 G1 w_sf))])) rfl (by rw [hml]; rfl) (argsL := [(.int (fn1 p2 G1 w_sf))]) (rest := []) (lenOf pd320 rfl) rfl (Nat.le_of_eq rfl) (hb hby at_165) (fun _ _ => ⟨rfl, e105, (by decide : 1 + 0 ≤ _), (by decide : 3 + 0 ≤ _)⟩)
            dsimp only [Pt.U, Pt.locs, Pt.cells, Pt.slots] at X108 l108 y108 z108 st108 hQ108
            subst l108 y108 z108
            obtain ⟨rfl, N108q, e108⟩ := hQ108
            have N108 := Fr.app N105 N108q
            refine gb (mkF m 168 #[vi p0, vi p1, vi p2, vi p3, vi p4, vi (nT p0), vi (fn1 p1 G1 w_sf), vi (fn1 p2 G1 w_sf), vi (fn1 p3 G1 w_sf), vi (fn1 p4 G1 w_sf), vr b79, .unset] [(.int (fn8 (fn1 p2 G1 w_sf) G1 w_sf))]) st108 ?_
            by_cases hf109 : (fn8 (fn1 p2 G1 w_sf) G1 w_sf) = (0 : Int32)
            · refine gb (mkF m 203 #[vi p0, vi p1, vi p2, vi p3, vi p4, vi (nT p0), vi (fn1 p1 G1 w_sf), vi (fn1 p2 G1 w_sf), vi (fn1 p3 G1 w_sf), vi (fn1 p4 G1 w_sf), vr b79, .unset] []) (fun _ k => XS.ifYes X108.here hx rfl (pc0 := 168) (pc' := 203) rfl (hb hby at_168) rfl ((if0 _ _).trans (teq hf109).1) (by decide) (by decide) k) ?_
              refine gb (mkF m 204 #[vi p0, vi p1, vi p2, vi p3, vi p4, vi (nT p0), vi (fn1 p1 G1 w_sf), vi (fn1 p2 G1 w_sf), vi (fn1 p3 G1 w_sf), vi (fn1 p4 G1 w_sf), vr b79, .unset] [(.int 0)]) (fun _ k => XS.iconst X108.here hx rfl (hb hby at_203) k) ?_
              exact J86 _ _ X108 e108 N108 (0 : Int32) (show (0 : Int32) = (fj0_7 p0 p1 p2 p3 p4 G1 w_sf) by unfold fj0_7; rw [if_neg hf107, if_pos hf109]; try rfl)
            · refine gb (mkF m 171 #[vi p0, vi p1, vi p2, vi p3, vi p4, vi (nT p0), vi (fn1 p1 G1 w_sf), vi (fn1 p2 G1 w_sf), vi (fn1 p3 G1 w_sf), vi (fn1 p4 G1 w_sf), vr b79, .unset] []) (fun _ k => XS.ifNo X108.here hx rfl (hb hby at_168) rfl ((if0 _ _).trans (feq hf109).1) k) ?_
              refine gb (mkF m 173 #[vi p0, vi p1, vi p2, vi p3, vi p4, vi (nT p0), vi (fn1 p1 G1 w_sf), vi (fn1 p2 G1 w_sf), vi (fn1 p3 G1 w_sf), vi (fn1 p4 G1 w_sf), vr b79, .unset] [(.int (nT p0))]) (fun _ k => XS.iload X108.here hx rfl (hb hby at_171) rfl k) ?_
              refine gb (mkF m 174 #[vi p0, vi p1, vi p2, vi p3, vi p4, vi (nT p0), vi (fn1 p1 G1 w_sf), vi (fn1 p2 G1 w_sf), vi (fn1 p3 G1 w_sf), vi (fn1 p4 G1 w_sf), vr b79, .unset] [(.int 3), (.int (nT p0))]) (fun _ k => XS.iconst X108.here hx rfl (hb hby at_173) k) ?_
              refine gb (mkF m 177 #[vi p0, vi p1, vi p2, vi p3, vi p4, vi (nT p0), vi (fn1 p1 G1 w_sf), vi (fn1 p2 G1 w_sf), vi (fn1 p3 G1 w_sf), vi (fn1 p4 G1 w_sf), vr b79, .unset] []) (fun _ k => XS.icmpNo X108.here hx rfl (hb hby at_174) rfl (flt (by rw [show (nT p0) = (3 : Int32) from hf78]; decide)).1 k) ?_
              refine gb (mkF m 179 #[vi p0, vi p1, vi p2, vi p3, vi p4, vi (nT p0), vi (fn1 p1 G1 w_sf), vi (fn1 p2 G1 w_sf), vi (fn1 p3 G1 w_sf), vi (fn1 p4 G1 w_sf), vr b79, .unset] [(.int (fn1 p3 G1 w_sf))]) (fun _ k => XS.iload X108.here hx rfl (hb hby at_177) rfl k) ?_
              obtain ⟨_, _, ⟨T110, L110, k110, n110⟩, -, X110, ⟨Lc110, hQ110, l110, y110, z110⟩, st110⟩ := callS X108 hx (y := mq22) hown (mvT hZ (hW hw 42 rfl)) (mvT hZ (hW hw 43 rfl)) (mvT hZ (hW hw 3 rfl)) (mvT hZ (hW hw 44 rfl)) (by decide) (backOf (W := 0) (rm8 l Z a0' hw [] (fn1 p3 G1 w_sf) G1 w_sf h85 n0 O106 W ) hZ (hW hw 44 rfl) (hW hw 3 rfl) (by decide) (by decide)) (g := (mkF m 179 #[vi p0, vi p1, vi p2, vi p3, vi p4, vi (nT p0), vi (fn1 p1 G1 w_sf), vi (fn1 p2 G1 w_sf), vi (fn1 p3 G1 w_sf), vi (fn1 p4 G1 w_sf), vr b79, .unset] [(.int (fn1 p3 G1 w_sf))])) rfl (by rw [hml]; rfl) (argsL := [(.int (fn1 p3 G1 w_sf))]) (rest := []) (lenOf pd320 rfl) rfl (Nat.le_of_eq rfl) (hb hby at_179) (fun _ _ => ⟨rfl, e108, (by decide : 1 + 0 ≤ _), (by decide : 3 + 0 ≤ _)⟩)
              dsimp only [Pt.U, Pt.locs, Pt.cells, Pt.slots] at X110 l110 y110 z110 st110 hQ110
              subst l110 y110 z110
              obtain ⟨rfl, N110q, e110⟩ := hQ110
              have N110 := Fr.app N108 N110q
              refine gb (mkF m 182 #[vi p0, vi p1, vi p2, vi p3, vi p4, vi (nT p0), vi (fn1 p1 G1 w_sf), vi (fn1 p2 G1 w_sf), vi (fn1 p3 G1 w_sf), vi (fn1 p4 G1 w_sf), vr b79, .unset] [(.int (fn8 (fn1 p3 G1 w_sf) G1 w_sf))]) st110 ?_
              by_cases hf111 : (fn8 (fn1 p3 G1 w_sf) G1 w_sf) = (0 : Int32)
              · refine gb (mkF m 203 #[vi p0, vi p1, vi p2, vi p3, vi p4, vi (nT p0), vi (fn1 p1 G1 w_sf), vi (fn1 p2 G1 w_sf), vi (fn1 p3 G1 w_sf), vi (fn1 p4 G1 w_sf), vr b79, .unset] []) (fun _ k => XS.ifYes X110.here hx rfl (pc0 := 182) (pc' := 203) rfl (hb hby at_182) rfl ((if0 _ _).trans (teq hf111).1) (by decide) (by decide) k) ?_
                refine gb (mkF m 204 #[vi p0, vi p1, vi p2, vi p3, vi p4, vi (nT p0), vi (fn1 p1 G1 w_sf), vi (fn1 p2 G1 w_sf), vi (fn1 p3 G1 w_sf), vi (fn1 p4 G1 w_sf), vr b79, .unset] [(.int 0)]) (fun _ k => XS.iconst X110.here hx rfl (hb hby at_203) k) ?_
                exact J86 _ _ X110 e110 N110 (0 : Int32) (show (0 : Int32) = (fj0_7 p0 p1 p2 p3 p4 G1 w_sf) by unfold fj0_7; rw [if_neg hf107, if_neg hf109, if_pos hf111]; try rfl)
              · refine gb (mkF m 185 #[vi p0, vi p1, vi p2, vi p3, vi p4, vi (nT p0), vi (fn1 p1 G1 w_sf), vi (fn1 p2 G1 w_sf), vi (fn1 p3 G1 w_sf), vi (fn1 p4 G1 w_sf), vr b79, .unset] []) (fun _ k => XS.ifNo X110.here hx rfl (hb hby at_182) rfl ((if0 _ _).trans (feq hf111).1) k) ?_
                refine gb (mkF m 187 #[vi p0, vi p1, vi p2, vi p3, vi p4, vi (nT p0), vi (fn1 p1 G1 w_sf), vi (fn1 p2 G1 w_sf), vi (fn1 p3 G1 w_sf), vi (fn1 p4 G1 w_sf), vr b79, .unset] [(.int (nT p0))]) (fun _ k => XS.iload X110.here hx rfl (hb hby at_185) rfl k) ?_
                refine gb (mkF m 188 #[vi p0, vi p1, vi p2, vi p3, vi p4, vi (nT p0), vi (fn1 p1 G1 w_sf), vi (fn1 p2 G1 w_sf), vi (fn1 p3 G1 w_sf), vi (fn1 p4 G1 w_sf), vr b79, .unset] [(.int 4), (.int (nT p0))]) (fun _ k => XS.iconst X110.here hx rfl (hb hby at_187) k) ?_
                refine gb (mkF m 199 #[vi p0, vi p1, vi p2, vi p3, vi p4, vi (nT p0), vi (fn1 p1 G1 w_sf), vi (fn1 p2 G1 w_sf), vi (fn1 p3 G1 w_sf), vi (fn1 p4 G1 w_sf), vr b79, .unset] []) (fun _ k => XS.icmpYes X110.here hx rfl (pc0 := 188) (pc' := 199) rfl (hb hby at_188) rfl (tlt (by rw [show (nT p0) = (3 : Int32) from hf78]; decide)).1 (by decide) (by decide) k) ?_
                refine gb (mkF m 200 #[vi p0, vi p1, vi p2, vi p3, vi p4, vi (nT p0), vi (fn1 p1 G1 w_sf), vi (fn1 p2 G1 w_sf), vi (fn1 p3 G1 w_sf), vi (fn1 p4 G1 w_sf), vr b79, .unset] [(.int 1)]) (fun _ k => XS.iconst X110.here hx rfl (hb hby at_199) k) ?_
                refine gb (mkF m 204 #[vi p0, vi p1, vi p2, vi p3, vi p4, vi (nT p0), vi (fn1 p1 G1 w_sf), vi (fn1 p2 G1 w_sf), vi (fn1 p3 G1 w_sf), vi (fn1 p4 G1 w_sf), vr b79, .unset] [(.int 1)]) (fun _ k => XS.goto X110.here hx rfl (pc0 := 200) (pc' := 204) rfl (hb hby at_200) (by decide) (by decide) k) ?_
                exact J86 _ _ X110 e110 N110 (1 : Int32) (show (1 : Int32) = (fj0_7 p0 p1 p2 p3 p4 G1 w_sf) by unfold fj0_7; rw [if_neg hf107, if_neg hf109, if_neg hf111]; try rfl)
        · refine gb (mkF m 118 #[vi p0, vi p1, vi p2, vi p3, vi p4, vi (nT p0), vi (fn1 p1 G1 w_sf), vi (fn1 p2 G1 w_sf), vi (fn1 p3 G1 w_sf), vi (fn1 p4 G1 w_sf), .unset, .unset] []) (fun _ k => XS.icmpYes X4.here hx rfl (pc0 := 92) (pc' := 118) rfl (hb hby at_92) rfl (feq hf78).2 (by decide) (by decide) k) ?_
          refine gb (mkF m 119 #[vi p0, vi p1, vi p2, vi p3, vi p4, vi (nT p0), vi (fn1 p1 G1 w_sf), vi (fn1 p2 G1 w_sf), vi (fn1 p3 G1 w_sf), vi (fn1 p4 G1 w_sf), .unset, .unset] [(.int 4)]) (fun _ k => XS.iconst X4.here hx rfl (hb hby at_118) k) ?_
          obtain ⟨T112, h112, k112, X112, e112, E112, A112, st112⟩ := newP X4 hx hZ (hW hw 5 rfl) e4 (g := (mkF m 119 #[vi p0, vi p1, vi p2, vi p3, vi p4, vi (nT p0), vi (fn1 p1 G1 w_sf), vi (fn1 p2 G1 w_sf), vi (fn1 p3 G1 w_sf), vi (fn1 p4 G1 w_sf), .unset, .unset] [(.int 4)])) rfl (hb hby at_119) rfl (by decide) (cap := 4) (by decide) (by decide) (by decide) (by decide)
          obtain ⟨b112, g112⟩ : ∃ z, z = (h0).size := ⟨_, rfl⟩
          rw [← g112] at A112 st112
          have gb112 : n0 ≤ b112 := Nat.le_trans (Nat.le_trans (Nat.le_of_eq O.1.symm) O.2.1) (Nat.le_of_eq g112.symm)
          have sb112 : h0.size ≤ b112 := Nat.le_trans (Keep.refl h0 []).1 (Nat.le_of_eq g112.symm)
          have V112 : Arv Z h112 b112 k112 .char (4 : Int32) [(.int 0), (.int 0), (.int 0), (.int 0)] (.int 0) := (Arv.new A112 (by decide)).pad (pad_rep [] (.int 0) 4)
          refine gb (mkF m 121 #[vi p0, vi p1, vi p2, vi p3, vi p4, vi (nT p0), vi (fn1 p1 G1 w_sf), vi (fn1 p2 G1 w_sf), vi (fn1 p3 G1 w_sf), vi (fn1 p4 G1 w_sf), .unset, .unset] [(.ref b112)]) st112 ?_
          refine gb (mkF m 122 #[vi p0, vi p1, vi p2, vi p3, vi p4, vi (nT p0), vi (fn1 p1 G1 w_sf), vi (fn1 p2 G1 w_sf), vi (fn1 p3 G1 w_sf), vi (fn1 p4 G1 w_sf), .unset, .unset] [(.ref b112), (.ref b112)]) (fun _ k => XS.dup X112.here hx rfl (hb hby at_121) rfl rfl k) ?_
          refine gb (mkF m 123 #[vi p0, vi p1, vi p2, vi p3, vi p4, vi (nT p0), vi (fn1 p1 G1 w_sf), vi (fn1 p2 G1 w_sf), vi (fn1 p3 G1 w_sf), vi (fn1 p4 G1 w_sf), .unset, .unset] [(.int 0), (.ref b112), (.ref b112)]) (fun _ k => XS.iconst X112.here hx rfl (hb hby at_122) k) ?_
          refine gb (mkF m 125 #[vi p0, vi p1, vi p2, vi p3, vi p4, vi (nT p0), vi (fn1 p1 G1 w_sf), vi (fn1 p2 G1 w_sf), vi (fn1 p3 G1 w_sf), vi (fn1 p4 G1 w_sf), .unset, .unset] [(.int (fn1 p1 G1 w_sf)), (.int 0), (.ref b112), (.ref b112)]) (fun _ k => XS.iload X112.here hx rfl (hb hby at_123) rfl k) ?_
          obtain ⟨cl113, Ar113, qa113, Sa113, Na113, Ha113, Ga113⟩ := id V112
          have hin114 : ¬ ((0 : Int32) < 0 ∨ cl113.slots.size ≤ ((0 : Int32)).toNatClampNeg) := inb_of Sa113 ⟨by decide, by decide⟩
          obtain ⟨T114, h114, X114, e114, W114, st114⟩ := stC X112 hx hZ e112 Ar113 (j := (0 : Int32)) hin114 (g := (mkF m 125 #[vi p0, vi p1, vi p2, vi p3, vi p4, vi (nT p0), vi (fn1 p1 G1 w_sf), vi (fn1 p2 G1 w_sf), vi (fn1 p3 G1 w_sf), vi (fn1 p4 G1 w_sf), .unset, .unset] [(.int (fn1 p1 G1 w_sf)), (.int 0), (.ref b112), (.ref b112)])) rfl rfl (hb hby at_125)
          have V114 : Arv Z h114 b112 k112 .char (4 : Int32) [(.int (nar .char (fn1 p1 G1 w_sf))), (.int 0), (.int 0), (.int 0)] (.int 0) := Arv.set Ar113 qa113 Sa113 Na113 Ha113 Ga113 (fits_nar_char _) W114 0 rfl (Nat.le_of_ble_eq_true rfl)
          have N114 := Fr.snoc X114 N4 gb112
          refine gb (mkF m 126 #[vi p0, vi p1, vi p2, vi p3, vi p4, vi (nT p0), vi (fn1 p1 G1 w_sf), vi (fn1 p2 G1 w_sf), vi (fn1 p3 G1 w_sf), vi (fn1 p4 G1 w_sf), .unset, .unset] [(.ref b112)]) st114 ?_
          refine gb (mkF m 127 #[vi p0, vi p1, vi p2, vi p3, vi p4, vi (nT p0), vi (fn1 p1 G1 w_sf), vi (fn1 p2 G1 w_sf), vi (fn1 p3 G1 w_sf), vi (fn1 p4 G1 w_sf), .unset, .unset] [(.ref b112), (.ref b112)]) (fun _ k => XS.dup X114.here hx rfl (hb hby at_126) rfl rfl k) ?_
          refine gb (mkF m 128 #[vi p0, vi p1, vi p2, vi p3, vi p4, vi (nT p0), vi (fn1 p1 G1 w_sf), vi (fn1 p2 G1 w_sf), vi (fn1 p3 G1 w_sf), vi (fn1 p4 G1 w_sf), .unset, .unset] [(.int 1), (.ref b112), (.ref b112)]) (fun _ k => XS.iconst X114.here hx rfl (hb hby at_127) k) ?_
          refine gb (mkF m 130 #[vi p0, vi p1, vi p2, vi p3, vi p4, vi (nT p0), vi (fn1 p1 G1 w_sf), vi (fn1 p2 G1 w_sf), vi (fn1 p3 G1 w_sf), vi (fn1 p4 G1 w_sf), .unset, .unset] [(.int (fn1 p2 G1 w_sf)), (.int 1), (.ref b112), (.ref b112)]) (fun _ k => XS.iload X114.here hx rfl (hb hby at_128) rfl k) ?_
          obtain ⟨cl115, Ar115, qa115, Sa115, Na115, Ha115, Ga115⟩ := id V114
          have hin116 : ¬ ((1 : Int32) < 0 ∨ cl115.slots.size ≤ ((1 : Int32)).toNatClampNeg) := inb_of Sa115 ⟨by decide, by decide⟩
          obtain ⟨T116, h116, X116, e116, W116, st116⟩ := stC X114 hx hZ e114 Ar115 (j := (1 : Int32)) hin116 (g := (mkF m 130 #[vi p0, vi p1, vi p2, vi p3, vi p4, vi (nT p0), vi (fn1 p1 G1 w_sf), vi (fn1 p2 G1 w_sf), vi (fn1 p3 G1 w_sf), vi (fn1 p4 G1 w_sf), .unset, .unset] [(.int (fn1 p2 G1 w_sf)), (.int 1), (.ref b112), (.ref b112)])) rfl rfl (hb hby at_130)
          have V116 : Arv Z h116 b112 k112 .char (4 : Int32) [(.int (nar .char (fn1 p1 G1 w_sf))), (.int (nar .char (fn1 p2 G1 w_sf))), (.int 0), (.int 0)] (.int 0) := Arv.set Ar115 qa115 Sa115 Na115 Ha115 Ga115 (fits_nar_char _) W116 1 rfl (Nat.le_of_ble_eq_true rfl)
          have N116 := Fr.snoc X116 N114 gb112
          refine gb (mkF m 131 #[vi p0, vi p1, vi p2, vi p3, vi p4, vi (nT p0), vi (fn1 p1 G1 w_sf), vi (fn1 p2 G1 w_sf), vi (fn1 p3 G1 w_sf), vi (fn1 p4 G1 w_sf), .unset, .unset] [(.ref b112)]) st116 ?_
          refine gb (mkF m 132 #[vi p0, vi p1, vi p2, vi p3, vi p4, vi (nT p0), vi (fn1 p1 G1 w_sf), vi (fn1 p2 G1 w_sf), vi (fn1 p3 G1 w_sf), vi (fn1 p4 G1 w_sf), .unset, .unset] [(.ref b112), (.ref b112)]) (fun _ k => XS.dup X116.here hx rfl (hb hby at_131) rfl rfl k) ?_
          refine gb (mkF m 133 #[vi p0, vi p1, vi p2, vi p3, vi p4, vi (nT p0), vi (fn1 p1 G1 w_sf), vi (fn1 p2 G1 w_sf), vi (fn1 p3 G1 w_sf), vi (fn1 p4 G1 w_sf), .unset, .unset] [(.int 2), (.ref b112), (.ref b112)]) (fun _ k => XS.iconst X116.here hx rfl (hb hby at_132) k) ?_
          refine gb (mkF m 135 #[vi p0, vi p1, vi p2, vi p3, vi p4, vi (nT p0), vi (fn1 p1 G1 w_sf), vi (fn1 p2 G1 w_sf), vi (fn1 p3 G1 w_sf), vi (fn1 p4 G1 w_sf), .unset, .unset] [(.int (fn1 p3 G1 w_sf)), (.int 2), (.ref b112), (.ref b112)]) (fun _ k => XS.iload X116.here hx rfl (hb hby at_133) rfl k) ?_
          obtain ⟨cl117, Ar117, qa117, Sa117, Na117, Ha117, Ga117⟩ := id V116
          have hin118 : ¬ ((2 : Int32) < 0 ∨ cl117.slots.size ≤ ((2 : Int32)).toNatClampNeg) := inb_of Sa117 ⟨by decide, by decide⟩
          obtain ⟨T118, h118, X118, e118, W118, st118⟩ := stC X116 hx hZ e116 Ar117 (j := (2 : Int32)) hin118 (g := (mkF m 135 #[vi p0, vi p1, vi p2, vi p3, vi p4, vi (nT p0), vi (fn1 p1 G1 w_sf), vi (fn1 p2 G1 w_sf), vi (fn1 p3 G1 w_sf), vi (fn1 p4 G1 w_sf), .unset, .unset] [(.int (fn1 p3 G1 w_sf)), (.int 2), (.ref b112), (.ref b112)])) rfl rfl (hb hby at_135)
          have V118 : Arv Z h118 b112 k112 .char (4 : Int32) [(.int (nar .char (fn1 p1 G1 w_sf))), (.int (nar .char (fn1 p2 G1 w_sf))), (.int (nar .char (fn1 p3 G1 w_sf))), (.int 0)] (.int 0) := Arv.set Ar117 qa117 Sa117 Na117 Ha117 Ga117 (fits_nar_char _) W118 2 rfl (Nat.le_of_ble_eq_true rfl)
          have N118 := Fr.snoc X118 N116 gb112
          refine gb (mkF m 136 #[vi p0, vi p1, vi p2, vi p3, vi p4, vi (nT p0), vi (fn1 p1 G1 w_sf), vi (fn1 p2 G1 w_sf), vi (fn1 p3 G1 w_sf), vi (fn1 p4 G1 w_sf), .unset, .unset] [(.ref b112)]) st118 ?_
          refine gb (mkF m 137 #[vi p0, vi p1, vi p2, vi p3, vi p4, vi (nT p0), vi (fn1 p1 G1 w_sf), vi (fn1 p2 G1 w_sf), vi (fn1 p3 G1 w_sf), vi (fn1 p4 G1 w_sf), .unset, .unset] [(.ref b112), (.ref b112)]) (fun _ k => XS.dup X118.here hx rfl (hb hby at_136) rfl rfl k) ?_
          refine gb (mkF m 138 #[vi p0, vi p1, vi p2, vi p3, vi p4, vi (nT p0), vi (fn1 p1 G1 w_sf), vi (fn1 p2 G1 w_sf), vi (fn1 p3 G1 w_sf), vi (fn1 p4 G1 w_sf), .unset, .unset] [(.int 3), (.ref b112), (.ref b112)]) (fun _ k => XS.iconst X118.here hx rfl (hb hby at_137) k) ?_
          refine gb (mkF m 140 #[vi p0, vi p1, vi p2, vi p3, vi p4, vi (nT p0), vi (fn1 p1 G1 w_sf), vi (fn1 p2 G1 w_sf), vi (fn1 p3 G1 w_sf), vi (fn1 p4 G1 w_sf), .unset, .unset] [(.int (fn1 p4 G1 w_sf)), (.int 3), (.ref b112), (.ref b112)]) (fun _ k => XS.iload X118.here hx rfl (hb hby at_138) rfl k) ?_
          obtain ⟨cl119, Ar119, qa119, Sa119, Na119, Ha119, Ga119⟩ := id V118
          have hin120 : ¬ ((3 : Int32) < 0 ∨ cl119.slots.size ≤ ((3 : Int32)).toNatClampNeg) := inb_of Sa119 ⟨by decide, by decide⟩
          obtain ⟨T120, h120, X120, e120, W120, st120⟩ := stC X118 hx hZ e118 Ar119 (j := (3 : Int32)) hin120 (g := (mkF m 140 #[vi p0, vi p1, vi p2, vi p3, vi p4, vi (nT p0), vi (fn1 p1 G1 w_sf), vi (fn1 p2 G1 w_sf), vi (fn1 p3 G1 w_sf), vi (fn1 p4 G1 w_sf), .unset, .unset] [(.int (fn1 p4 G1 w_sf)), (.int 3), (.ref b112), (.ref b112)])) rfl rfl (hb hby at_140)
          have V120 : Arv Z h120 b112 k112 .char (4 : Int32) [(.int (nar .char (fn1 p1 G1 w_sf))), (.int (nar .char (fn1 p2 G1 w_sf))), (.int (nar .char (fn1 p3 G1 w_sf))), (.int (nar .char (fn1 p4 G1 w_sf)))] (.int 0) := Arv.set Ar119 qa119 Sa119 Na119 Ha119 Ga119 (fits_nar_char _) W120 3 rfl (Nat.le_of_ble_eq_true rfl)
          have N120 := Fr.snoc X120 N118 gb112
          refine gb (mkF m 141 #[vi p0, vi p1, vi p2, vi p3, vi p4, vi (nT p0), vi (fn1 p1 G1 w_sf), vi (fn1 p2 G1 w_sf), vi (fn1 p3 G1 w_sf), vi (fn1 p4 G1 w_sf), .unset, .unset] [(.ref b112)]) st120 ?_
          refine gb (mkF m 143 #[vi p0, vi p1, vi p2, vi p3, vi p4, vi (nT p0), vi (fn1 p1 G1 w_sf), vi (fn1 p2 G1 w_sf), vi (fn1 p3 G1 w_sf), vi (fn1 p4 G1 w_sf), vr b112, .unset] []) (fun _ k => XS.astore X120.here hx rfl (hb hby at_141) rfl rfl (l' := #[vi p0, vi p1, vi p2, vi p3, vi p4, vi (nT p0), vi (fn1 p1 G1 w_sf), vi (fn1 p2 G1 w_sf), vi (fn1 p3 G1 w_sf), vi (fn1 p4 G1 w_sf), vr b112, .unset]) rfl k) ?_
          refine gb (mkF m 145 #[vi p0, vi p1, vi p2, vi p3, vi p4, vi (nT p0), vi (fn1 p1 G1 w_sf), vi (fn1 p2 G1 w_sf), vi (fn1 p3 G1 w_sf), vi (fn1 p4 G1 w_sf), vr b112, .unset] [(.int (nT p0))]) (fun _ k => XS.iload X120.here hx rfl (hb hby at_143) rfl k) ?_
          refine gb (mkF m 146 #[vi p0, vi p1, vi p2, vi p3, vi p4, vi (nT p0), vi (fn1 p1 G1 w_sf), vi (fn1 p2 G1 w_sf), vi (fn1 p3 G1 w_sf), vi (fn1 p4 G1 w_sf), vr b112, .unset] [(.int 1), (.int (nT p0))]) (fun _ k => XS.iconst X120.here hx rfl (hb hby at_145) k) ?_
          have J121 : ∀ (T' : State) (lc : List Loc) (X' : Stand p l e room_1 (s.setVm s.vm) m #[(.int p0), (.int p1), (.int p2), (.int p3), (.int p4)] below meth c T' lc 1 4) (eT : T'.heap = h120) (N' : Fr n0 lc) (zj121_0 : Int32) (hz121_0 : zj121_0 = (fj0_10 p0 p1 p2 p3 p4 G1 w_sf)), Gl p e below (PosW 24 1152 (Q0 Z p0 p1 p2 p3 p4 G1 w_sf h0 n0) s) T' (mkF m 204 #[vi p0, vi p1, vi p2, vi p3, vi p4, vi (nT p0), vi (fn1 p1 G1 w_sf), vi (fn1 p2 G1 w_sf), vi (fn1 p3 G1 w_sf), vi (fn1 p4 G1 w_sf), vr b112, .unset] [(.int zj121_0)]) := by
            intro T' lc X' eT N' zj121_0 hz121_0
            subst hz121_0
            refine gb (mkF m 206 #[vi p0, vi p1, vi p2, vi p3, vi p4, vi (nT p0), vi (fn1 p1 G1 w_sf), vi (fn1 p2 G1 w_sf), vi (fn1 p3 G1 w_sf), vi (fn1 p4 G1 w_sf), vr b112, vi (fj0_10 p0 p1 p2 p3 p4 G1 w_sf)] []) (fun _ k => XS.istore X'.here hx rfl (hb hby at_204) rfl (l' := #[vi p0, vi p1, vi p2, vi p3, vi p4, vi (nT p0), vi (fn1 p1 G1 w_sf), vi (fn1 p2 G1 w_sf), vi (fn1 p3 G1 w_sf), vi (fn1 p4 G1 w_sf), vr b112, vi (fj0_10 p0 p1 p2 p3 p4 G1 w_sf)]) rfl k) ?_
            have O123 := (((((O.ext E112).wr W114 gb112).wr W116 gb112).wr W118 gb112).wr W120 gb112)
            have K124 := ((((((Keep.refl h0 []).ext E112).wr W114 (Or.inr sb112)).wr W116 (Or.inr sb112)).wr W118 (Or.inr sb112)).wr W120 (Or.inr sb112))
            obtain ⟨T122, h122, X122, e122, E122, A122, D122, -, st122⟩ := newO X' hx hZ hown (hW hw 6 rfl) (hW hw 7 rfl) (hW hw 8 rfl) eT (g := (mkF m 206 #[vi p0, vi p1, vi p2, vi p3, vi p4, vi (nT p0), vi (fn1 p1 G1 w_sf), vi (fn1 p2 G1 w_sf), vi (fn1 p3 G1 w_sf), vi (fn1 p4 G1 w_sf), vr b112, vi (fj0_10 p0 p1 p2 p3 p4 G1 w_sf)] [])) rfl (hb hby at_206) (by decide) (by decide)
            obtain ⟨b122, g122⟩ : ∃ z, z = (h120).size := ⟨_, rfl⟩
            rw [← g122] at A122 D122 st122
            have gb122 : n0 ≤ b122 := Nat.le_trans (Nat.le_trans (Nat.le_of_eq O123.1.symm) O123.2.1) (Nat.le_of_eq g122.symm)
            have sb122 : h0.size ≤ b122 := Nat.le_trans K124.1 (Nat.le_of_eq g122.symm)
            have ne122_0 : b112 ≠ b122 := Nat.ne_of_lt (Nat.lt_of_lt_of_le V120.lt (Nat.le_of_eq g122.symm))
            have D122_value : Fld Z h122 b122 "java/lang/String" "value" "[B" .null := D122 (Or.inr (hW hw 21 rfl)) (ty := (.array .byte)) (by decide)
            have D122_coder : Fld Z h122 b122 "java/lang/String" "coder" "B" (.int 0) := D122 (Or.inr (hW hw 22 rfl)) (ty := .byte) (by decide)
            refine gb (mkF m 209 #[vi p0, vi p1, vi p2, vi p3, vi p4, vi (nT p0), vi (fn1 p1 G1 w_sf), vi (fn1 p2 G1 w_sf), vi (fn1 p3 G1 w_sf), vi (fn1 p4 G1 w_sf), vr b112, vi (fj0_10 p0 p1 p2 p3 p4 G1 w_sf)] [(.ref b122)]) st122 ?_
            refine gb (mkF m 210 #[vi p0, vi p1, vi p2, vi p3, vi p4, vi (nT p0), vi (fn1 p1 G1 w_sf), vi (fn1 p2 G1 w_sf), vi (fn1 p3 G1 w_sf), vi (fn1 p4 G1 w_sf), vr b112, vi (fj0_10 p0 p1 p2 p3 p4 G1 w_sf)] [(.ref b122), (.ref b122)]) (fun _ k => XS.dup X122.here hx rfl (hb hby at_209) rfl rfl k) ?_
            refine gb (mkF m 212 #[vi p0, vi p1, vi p2, vi p3, vi p4, vi (nT p0), vi (fn1 p1 G1 w_sf), vi (fn1 p2 G1 w_sf), vi (fn1 p3 G1 w_sf), vi (fn1 p4 G1 w_sf), vr b112, vi (fj0_10 p0 p1 p2 p3 p4 G1 w_sf)] [(.ref b112), (.ref b122), (.ref b122)]) (fun _ k => XS.aload X122.here hx rfl (hb hby at_210) rfl rfl k) ?_
            have f126 := (Arv.ext V120 E122)
            have O127 := (O123.ext E122)
            obtain ⟨_, _, ⟨T125, L125, k125, n125⟩, -, X125, ⟨Lc125, hQ125, l125, y125, z125⟩, st125⟩ := X122.specialBack hx (y := mq19) rfl hown (mvT hZ (hW hw 9 rfl)) (mvT hZ (hW hw 10 rfl)) (mvT hZ (hW hw 11 rfl)) (by decide) (backOf (W := 1) (rm2k4 l Z a0' hw [] b122 b112 k112 (nar .char (fn1 p1 G1 w_sf)) (nar .char (fn1 p2 G1 w_sf)) (nar .char (fn1 p3 G1 w_sf)) (nar .char (fn1 p4 G1 w_sf)) G1 w_sf h122 n0 O127 W A122 D122_value D122_coder gb122 f126 (nar_nar _) (nar_nar _) (nar_nar _) (nar_nar _)) hZ (hW hw 11 rfl) (hW hw 8 rfl) (by decide) (by decide)) (g := (mkF m 212 #[vi p0, vi p1, vi p2, vi p3, vi p4, vi (nT p0), vi (fn1 p1 G1 w_sf), vi (fn1 p2 G1 w_sf), vi (fn1 p3 G1 w_sf), vi (fn1 p4 G1 w_sf), vr b112, vi (fj0_10 p0 p1 p2 p3 p4 G1 w_sf)] [(.ref b112), (.ref b122), (.ref b122)])) rfl (by rw [hml]; rfl) (Steps.refl _) (a := b122) (argsL := [(.ref b112)]) (rest := [(.ref b122)]) (lenOf pd318 rfl) rfl (Nat.le_of_eq rfl) (hb hby at_212) (fun _ _ => ⟨rfl, e122, (by decide : 2 + 2 ≤ _), (by decide : 8 + 12 ≤ _)⟩)
            dsimp only [Pt.U, Pt.locs, Pt.cells, Pt.slots] at X125 l125 y125 z125 st125 hQ125
            subst l125 y125 z125
            obtain ⟨b_125, kb_125, rfl, N125q, Kc125, fc125_0, fc125_1⟩ := hQ125
            have N125 := Fr.app N' N125q
            refine gb (mkF m 215 #[vi p0, vi p1, vi p2, vi p3, vi p4, vi (nT p0), vi (fn1 p1 G1 w_sf), vi (fn1 p2 G1 w_sf), vi (fn1 p3 G1 w_sf), vi (fn1 p4 G1 w_sf), vr b112, vi (fj0_10 p0 p1 p2 p3 p4 G1 w_sf)] [(.ref b122)]) (fun _ k => st125.trans k) ?_
            rcases fc125_1 with ⟨hN, hcd, hV⟩ | ⟨hN, hcd, hV⟩
            · have f129 := (Exa.keep A122 Kc125)
              have O130 := (O127.keep Kc125 (allS gb122 all0))
              obtain ⟨_, _, ⟨T128, L128, k128, n128⟩, -, X128, ⟨Lc128, hQ128, l128, y128, z128⟩, st128⟩ := callS X125 hx (y := mq20) hown (mvT hZ (hW hw 27 rfl)) (mvT hZ (hW hw 28 rfl)) (mvT hZ (hW hw 29 rfl)) (mvT hZ (hW hw 30 rfl)) (by decide) (backOf (W := 0) (rm54A l Z a0' hw [] b122 b_125 kb_125 (bL (nar .char (fn1 p1 G1 w_sf))) (bL (nar .char (fn1 p2 G1 w_sf))) (bL (nar .char (fn1 p3 G1 w_sf))) (bL (nar .char (fn1 p4 G1 w_sf))) G1 w_sf T125.heap n0 O130 W f129 fc125_0 hcd hV) hZ (hW hw 30 rfl) (hW hw 29 rfl) (by decide) (by decide)) (g := (mkF m 215 #[vi p0, vi p1, vi p2, vi p3, vi p4, vi (nT p0), vi (fn1 p1 G1 w_sf), vi (fn1 p2 G1 w_sf), vi (fn1 p3 G1 w_sf), vi (fn1 p4 G1 w_sf), vr b112, vi (fj0_10 p0 p1 p2 p3 p4 G1 w_sf)] [(.ref b122)])) rfl (by rw [hml]; rfl) (argsL := [(.ref b122)]) (rest := []) (lenOf pd319 rfl) rfl (Nat.le_of_eq rfl) (hb hby at_215) (fun _ _ => ⟨rfl, rfl, (by decide : 4 + 0 ≤ _), (by decide : 20 + 0 ≤ _)⟩)
              dsimp only [Pt.U, Pt.locs, Pt.cells, Pt.slots] at X128 l128 y128 z128 st128 hQ128
              subst l128 y128 z128
              obtain ⟨rfl, N128q, e128⟩ := hQ128
              have N128 := Fr.app N125 N128q
              refine gb (mkF m 218 #[vi p0, vi p1, vi p2, vi p3, vi p4, vi (nT p0), vi (fn1 p1 G1 w_sf), vi (fn1 p2 G1 w_sf), vi (fn1 p3 G1 w_sf), vi (fn1 p4 G1 w_sf), vr b112, vi (fj0_10 p0 p1 p2 p3 p4 G1 w_sf)] [(.int (fn54A (bL (nar .char (fn1 p1 G1 w_sf))) (bL (nar .char (fn1 p2 G1 w_sf))) (bL (nar .char (fn1 p3 G1 w_sf))) (bL (nar .char (fn1 p4 G1 w_sf))) G1 w_sf))]) st128 ?_
              refine gb (mkF m 220 #[vi p0, vi p1, vi p2, vi p3, vi p4, vi (nT p0), vi (fn1 p1 G1 w_sf), vi (fn1 p2 G1 w_sf), vi (fn1 p3 G1 w_sf), vi (fn1 p4 G1 w_sf), vr b112, vi (fj0_10 p0 p1 p2 p3 p4 G1 w_sf)] [(.int (fj0_10 p0 p1 p2 p3 p4 G1 w_sf)), (.int (fn54A (bL (nar .char (fn1 p1 G1 w_sf))) (bL (nar .char (fn1 p2 G1 w_sf))) (bL (nar .char (fn1 p3 G1 w_sf))) (bL (nar .char (fn1 p4 G1 w_sf))) G1 w_sf))]) (fun _ k => XS.iload X128.here hx rfl (hb hby at_218) rfl k) ?_
              have J131 : ∀ (T' : State) (lc : List Loc) (X' : Stand p l e room_1 (s.setVm s.vm) m #[(.int p0), (.int p1), (.int p2), (.int p3), (.int p4)] below meth c T' lc 4 20) (eT : T'.heap = T125.heap) (N' : Fr n0 lc) (zj131_0 : Int32) (hz131_0 : zj131_0 = (fj0_11 p0 p1 p2 p3 p4 G1 w_sf)), Gl p e below (PosW 24 1152 (Q0 Z p0 p1 p2 p3 p4 G1 w_sf h0 n0) s) T' (mkF m 228 #[vi p0, vi p1, vi p2, vi p3, vi p4, vi (nT p0), vi (fn1 p1 G1 w_sf), vi (fn1 p2 G1 w_sf), vi (fn1 p3 G1 w_sf), vi (fn1 p4 G1 w_sf), vr b112, vi (fj0_10 p0 p1 p2 p3 p4 G1 w_sf)] [(.int zj131_0)]) := by
                intro T' lc X' eT N' zj131_0 hz131_0
                subst hz131_0
                have sz132 := (Nat.le_trans (Nat.le_trans (Nat.le_trans (Nat.le_trans (Nat.le_trans (Nat.le_trans (Nat.le_trans (Nat.le_refl h0.size) E112.1) (Nat.le_of_eq W114.size.symm)) (Nat.le_of_eq W116.size.symm)) (Nat.le_of_eq W118.size.symm)) (Nat.le_of_eq W120.size.symm)) E122.1) Kc125.1)
                exact Gl.outNW X' hS (by rw [eT]; exact sz132) hx hk (t := .boolean) Bd.returns (by simp) (hb hby at_228) ⟨(congrArg (fun z => some (Value.int z)) (show nar .boolean (fj0_11 p0 p1 p2 p3 p4 G1 w_sf) = fn0 p0 p1 p2 p3 p4 G1 w_sf by unfold fn0; rw [if_neg hf5, if_neg hf22, if_neg hf48, if_neg hf78, if_neg hN]; try rfl)), N'⟩ (by decide) (by decide)
              by_cases hf133 : (fn54A (bL (nar .char (fn1 p1 G1 w_sf))) (bL (nar .char (fn1 p2 G1 w_sf))) (bL (nar .char (fn1 p3 G1 w_sf))) (bL (nar .char (fn1 p4 G1 w_sf))) G1 w_sf) = (fj0_10 p0 p1 p2 p3 p4 G1 w_sf)
              · refine gb (mkF m 223 #[vi p0, vi p1, vi p2, vi p3, vi p4, vi (nT p0), vi (fn1 p1 G1 w_sf), vi (fn1 p2 G1 w_sf), vi (fn1 p3 G1 w_sf), vi (fn1 p4 G1 w_sf), vr b112, vi (fj0_10 p0 p1 p2 p3 p4 G1 w_sf)] []) (fun _ k => XS.icmpNo X128.here hx rfl (hb hby at_220) rfl (teq hf133).2 k) ?_
                refine gb (mkF m 224 #[vi p0, vi p1, vi p2, vi p3, vi p4, vi (nT p0), vi (fn1 p1 G1 w_sf), vi (fn1 p2 G1 w_sf), vi (fn1 p3 G1 w_sf), vi (fn1 p4 G1 w_sf), vr b112, vi (fj0_10 p0 p1 p2 p3 p4 G1 w_sf)] [(.int 1)]) (fun _ k => XS.iconst X128.here hx rfl (hb hby at_223) k) ?_
                refine gb (mkF m 228 #[vi p0, vi p1, vi p2, vi p3, vi p4, vi (nT p0), vi (fn1 p1 G1 w_sf), vi (fn1 p2 G1 w_sf), vi (fn1 p3 G1 w_sf), vi (fn1 p4 G1 w_sf), vr b112, vi (fj0_10 p0 p1 p2 p3 p4 G1 w_sf)] [(.int 1)]) (fun _ k => XS.goto X128.here hx rfl (pc0 := 224) (pc' := 228) rfl (hb hby at_224) (by decide) (by decide) k) ?_
                exact J131 _ _ X128 e128 N128 (1 : Int32) (show (1 : Int32) = (fj0_11 p0 p1 p2 p3 p4 G1 w_sf) by unfold fj0_11; rw [if_pos hf133]; try rfl)
              · refine gb (mkF m 227 #[vi p0, vi p1, vi p2, vi p3, vi p4, vi (nT p0), vi (fn1 p1 G1 w_sf), vi (fn1 p2 G1 w_sf), vi (fn1 p3 G1 w_sf), vi (fn1 p4 G1 w_sf), vr b112, vi (fj0_10 p0 p1 p2 p3 p4 G1 w_sf)] []) (fun _ k => XS.icmpYes X128.here hx rfl (pc0 := 220) (pc' := 227) rfl (hb hby at_220) rfl (feq hf133).2 (by decide) (by decide) k) ?_
                refine gb (mkF m 228 #[vi p0, vi p1, vi p2, vi p3, vi p4, vi (nT p0), vi (fn1 p1 G1 w_sf), vi (fn1 p2 G1 w_sf), vi (fn1 p3 G1 w_sf), vi (fn1 p4 G1 w_sf), vr b112, vi (fj0_10 p0 p1 p2 p3 p4 G1 w_sf)] [(.int 0)]) (fun _ k => XS.iconst X128.here hx rfl (hb hby at_227) k) ?_
                exact J131 _ _ X128 e128 N128 (0 : Int32) (show (0 : Int32) = (fj0_11 p0 p1 p2 p3 p4 G1 w_sf) by unfold fj0_11; rw [if_neg hf133]; try rfl)
            · have f135 := (Exa.keep A122 Kc125)
              have O136 := (O127.keep Kc125 (allS gb122 all0))
              obtain ⟨_, _, ⟨T134, L134, k134, n134⟩, -, X134, ⟨Lc134, hQ134, l134, y134, z134⟩, st134⟩ := callS X125 hx (y := mq20) hown (mvT hZ (hW hw 27 rfl)) (mvT hZ (hW hw 28 rfl)) (mvT hZ (hW hw 29 rfl)) (mvT hZ (hW hw 30 rfl)) (by decide) (backOf (W := 0) (rm54U l Z a0' hw [] b122 b_125 kb_125 (bA (nar .char (fn1 p1 G1 w_sf))) (bB (nar .char (fn1 p1 G1 w_sf))) (bA (nar .char (fn1 p2 G1 w_sf))) (bB (nar .char (fn1 p2 G1 w_sf))) (bA (nar .char (fn1 p3 G1 w_sf))) (bB (nar .char (fn1 p3 G1 w_sf))) (bA (nar .char (fn1 p4 G1 w_sf))) (bB (nar .char (fn1 p4 G1 w_sf))) G1 w_sf T125.heap n0 O136 W f135 fc125_0 hcd hV) hZ (hW hw 30 rfl) (hW hw 29 rfl) (by decide) (by decide)) (g := (mkF m 215 #[vi p0, vi p1, vi p2, vi p3, vi p4, vi (nT p0), vi (fn1 p1 G1 w_sf), vi (fn1 p2 G1 w_sf), vi (fn1 p3 G1 w_sf), vi (fn1 p4 G1 w_sf), vr b112, vi (fj0_10 p0 p1 p2 p3 p4 G1 w_sf)] [(.ref b122)])) rfl (by rw [hml]; rfl) (argsL := [(.ref b122)]) (rest := []) (lenOf pd319 rfl) rfl (Nat.le_of_eq rfl) (hb hby at_215) (fun _ _ => ⟨rfl, rfl, (by decide : 4 + 0 ≤ _), (by decide : 20 + 0 ≤ _)⟩)
              dsimp only [Pt.U, Pt.locs, Pt.cells, Pt.slots] at X134 l134 y134 z134 st134 hQ134
              subst l134 y134 z134
              obtain ⟨rfl, N134q, e134⟩ := hQ134
              have N134 := Fr.app N125 N134q
              refine gb (mkF m 218 #[vi p0, vi p1, vi p2, vi p3, vi p4, vi (nT p0), vi (fn1 p1 G1 w_sf), vi (fn1 p2 G1 w_sf), vi (fn1 p3 G1 w_sf), vi (fn1 p4 G1 w_sf), vr b112, vi (fj0_10 p0 p1 p2 p3 p4 G1 w_sf)] [(.int (fn54U (bA (nar .char (fn1 p1 G1 w_sf))) (bB (nar .char (fn1 p1 G1 w_sf))) (bA (nar .char (fn1 p2 G1 w_sf))) (bB (nar .char (fn1 p2 G1 w_sf))) (bA (nar .char (fn1 p3 G1 w_sf))) (bB (nar .char (fn1 p3 G1 w_sf))) (bA (nar .char (fn1 p4 G1 w_sf))) (bB (nar .char (fn1 p4 G1 w_sf))) G1 w_sf))]) st134 ?_
              refine gb (mkF m 220 #[vi p0, vi p1, vi p2, vi p3, vi p4, vi (nT p0), vi (fn1 p1 G1 w_sf), vi (fn1 p2 G1 w_sf), vi (fn1 p3 G1 w_sf), vi (fn1 p4 G1 w_sf), vr b112, vi (fj0_10 p0 p1 p2 p3 p4 G1 w_sf)] [(.int (fj0_10 p0 p1 p2 p3 p4 G1 w_sf)), (.int (fn54U (bA (nar .char (fn1 p1 G1 w_sf))) (bB (nar .char (fn1 p1 G1 w_sf))) (bA (nar .char (fn1 p2 G1 w_sf))) (bB (nar .char (fn1 p2 G1 w_sf))) (bA (nar .char (fn1 p3 G1 w_sf))) (bB (nar .char (fn1 p3 G1 w_sf))) (bA (nar .char (fn1 p4 G1 w_sf))) (bB (nar .char (fn1 p4 G1 w_sf))) G1 w_sf))]) (fun _ k => XS.iload X134.here hx rfl (hb hby at_218) rfl k) ?_
              have J137 : ∀ (T' : State) (lc : List Loc) (X' : Stand p l e room_1 (s.setVm s.vm) m #[(.int p0), (.int p1), (.int p2), (.int p3), (.int p4)] below meth c T' lc 4 20) (eT : T'.heap = T125.heap) (N' : Fr n0 lc) (zj137_0 : Int32) (hz137_0 : zj137_0 = (fj0_12 p0 p1 p2 p3 p4 G1 w_sf)), Gl p e below (PosW 24 1152 (Q0 Z p0 p1 p2 p3 p4 G1 w_sf h0 n0) s) T' (mkF m 228 #[vi p0, vi p1, vi p2, vi p3, vi p4, vi (nT p0), vi (fn1 p1 G1 w_sf), vi (fn1 p2 G1 w_sf), vi (fn1 p3 G1 w_sf), vi (fn1 p4 G1 w_sf), vr b112, vi (fj0_10 p0 p1 p2 p3 p4 G1 w_sf)] [(.int zj137_0)]) := by
                intro T' lc X' eT N' zj137_0 hz137_0
                subst hz137_0
                have sz138 := (Nat.le_trans (Nat.le_trans (Nat.le_trans (Nat.le_trans (Nat.le_trans (Nat.le_trans (Nat.le_trans (Nat.le_refl h0.size) E112.1) (Nat.le_of_eq W114.size.symm)) (Nat.le_of_eq W116.size.symm)) (Nat.le_of_eq W118.size.symm)) (Nat.le_of_eq W120.size.symm)) E122.1) Kc125.1)
                exact Gl.outNW X' hS (by rw [eT]; exact sz138) hx hk (t := .boolean) Bd.returns (by simp) (hb hby at_228) ⟨(congrArg (fun z => some (Value.int z)) (show nar .boolean (fj0_12 p0 p1 p2 p3 p4 G1 w_sf) = fn0 p0 p1 p2 p3 p4 G1 w_sf by unfold fn0; rw [if_neg hf5, if_neg hf22, if_neg hf48, if_neg hf78, if_pos hN]; try rfl)), N'⟩ (by decide) (by decide)
              by_cases hf139 : (fn54U (bA (nar .char (fn1 p1 G1 w_sf))) (bB (nar .char (fn1 p1 G1 w_sf))) (bA (nar .char (fn1 p2 G1 w_sf))) (bB (nar .char (fn1 p2 G1 w_sf))) (bA (nar .char (fn1 p3 G1 w_sf))) (bB (nar .char (fn1 p3 G1 w_sf))) (bA (nar .char (fn1 p4 G1 w_sf))) (bB (nar .char (fn1 p4 G1 w_sf))) G1 w_sf) = (fj0_10 p0 p1 p2 p3 p4 G1 w_sf)
              · refine gb (mkF m 223 #[vi p0, vi p1, vi p2, vi p3, vi p4, vi (nT p0), vi (fn1 p1 G1 w_sf), vi (fn1 p2 G1 w_sf), vi (fn1 p3 G1 w_sf), vi (fn1 p4 G1 w_sf), vr b112, vi (fj0_10 p0 p1 p2 p3 p4 G1 w_sf)] []) (fun _ k => XS.icmpNo X134.here hx rfl (hb hby at_220) rfl (teq hf139).2 k) ?_
                refine gb (mkF m 224 #[vi p0, vi p1, vi p2, vi p3, vi p4, vi (nT p0), vi (fn1 p1 G1 w_sf), vi (fn1 p2 G1 w_sf), vi (fn1 p3 G1 w_sf), vi (fn1 p4 G1 w_sf), vr b112, vi (fj0_10 p0 p1 p2 p3 p4 G1 w_sf)] [(.int 1)]) (fun _ k => XS.iconst X134.here hx rfl (hb hby at_223) k) ?_
                refine gb (mkF m 228 #[vi p0, vi p1, vi p2, vi p3, vi p4, vi (nT p0), vi (fn1 p1 G1 w_sf), vi (fn1 p2 G1 w_sf), vi (fn1 p3 G1 w_sf), vi (fn1 p4 G1 w_sf), vr b112, vi (fj0_10 p0 p1 p2 p3 p4 G1 w_sf)] [(.int 1)]) (fun _ k => XS.goto X134.here hx rfl (pc0 := 224) (pc' := 228) rfl (hb hby at_224) (by decide) (by decide) k) ?_
                exact J137 _ _ X134 e134 N134 (1 : Int32) (show (1 : Int32) = (fj0_12 p0 p1 p2 p3 p4 G1 w_sf) by unfold fj0_12; rw [if_pos hf139]; try rfl)
              · refine gb (mkF m 227 #[vi p0, vi p1, vi p2, vi p3, vi p4, vi (nT p0), vi (fn1 p1 G1 w_sf), vi (fn1 p2 G1 w_sf), vi (fn1 p3 G1 w_sf), vi (fn1 p4 G1 w_sf), vr b112, vi (fj0_10 p0 p1 p2 p3 p4 G1 w_sf)] []) (fun _ k => XS.icmpYes X134.here hx rfl (pc0 := 220) (pc' := 227) rfl (hb hby at_220) rfl (feq hf139).2 (by decide) (by decide) k) ?_
                refine gb (mkF m 228 #[vi p0, vi p1, vi p2, vi p3, vi p4, vi (nT p0), vi (fn1 p1 G1 w_sf), vi (fn1 p2 G1 w_sf), vi (fn1 p3 G1 w_sf), vi (fn1 p4 G1 w_sf), vr b112, vi (fj0_10 p0 p1 p2 p3 p4 G1 w_sf)] [(.int 0)]) (fun _ k => XS.iconst X134.here hx rfl (hb hby at_227) k) ?_
                exact J137 _ _ X134 e134 N134 (0 : Int32) (show (0 : Int32) = (fj0_12 p0 p1 p2 p3 p4 G1 w_sf) by unfold fj0_12; rw [if_neg hf139]; try rfl)
          refine gb (mkF m 149 #[vi p0, vi p1, vi p2, vi p3, vi p4, vi (nT p0), vi (fn1 p1 G1 w_sf), vi (fn1 p2 G1 w_sf), vi (fn1 p3 G1 w_sf), vi (fn1 p4 G1 w_sf), vr b112, .unset] []) (fun _ k => XS.icmpNo X120.here hx rfl (hb hby at_146) rfl (flt (by rw [show (nT p0) = (4 : Int32) from (nfour hf5 hf22 hf48 hf78)]; decide)).1 k) ?_
          refine gb (mkF m 151 #[vi p0, vi p1, vi p2, vi p3, vi p4, vi (nT p0), vi (fn1 p1 G1 w_sf), vi (fn1 p2 G1 w_sf), vi (fn1 p3 G1 w_sf), vi (fn1 p4 G1 w_sf), vr b112, .unset] [(.int (fn1 p1 G1 w_sf))]) (fun _ k => XS.iload X120.here hx rfl (hb hby at_149) rfl k) ?_
          have O141 := (((((O.ext E112).wr W114 gb112).wr W116 gb112).wr W118 gb112).wr W120 gb112)
          obtain ⟨_, _, ⟨T140, L140, k140, n140⟩, -, X140, ⟨Lc140, hQ140, l140, y140, z140⟩, st140⟩ := callS X120 hx (y := mq22) hown (mvT hZ (hW hw 42 rfl)) (mvT hZ (hW hw 43 rfl)) (mvT hZ (hW hw 3 rfl)) (mvT hZ (hW hw 44 rfl)) (by decide) (backOf (W := 0) (rm8 l Z a0' hw [] (fn1 p1 G1 w_sf) G1 w_sf h120 n0 O141 W ) hZ (hW hw 44 rfl) (hW hw 3 rfl) (by decide) (by decide)) (g := (mkF m 151 #[vi p0, vi p1, vi p2, vi p3, vi p4, vi (nT p0), vi (fn1 p1 G1 w_sf), vi (fn1 p2 G1 w_sf), vi (fn1 p3 G1 w_sf), vi (fn1 p4 G1 w_sf), vr b112, .unset] [(.int (fn1 p1 G1 w_sf))])) rfl (by rw [hml]; rfl) (argsL := [(.int (fn1 p1 G1 w_sf))]) (rest := []) (lenOf pd320 rfl) rfl (Nat.le_of_eq rfl) (hb hby at_151) (fun _ _ => ⟨rfl, e120, (by decide : 1 + 0 ≤ _), (by decide : 4 + 0 ≤ _)⟩)
          dsimp only [Pt.U, Pt.locs, Pt.cells, Pt.slots] at X140 l140 y140 z140 st140 hQ140
          subst l140 y140 z140
          obtain ⟨rfl, N140q, e140⟩ := hQ140
          have N140 := Fr.app N120 N140q
          refine gb (mkF m 154 #[vi p0, vi p1, vi p2, vi p3, vi p4, vi (nT p0), vi (fn1 p1 G1 w_sf), vi (fn1 p2 G1 w_sf), vi (fn1 p3 G1 w_sf), vi (fn1 p4 G1 w_sf), vr b112, .unset] [(.int (fn8 (fn1 p1 G1 w_sf) G1 w_sf))]) st140 ?_
          by_cases hf142 : (fn8 (fn1 p1 G1 w_sf) G1 w_sf) = (0 : Int32)
          · refine gb (mkF m 203 #[vi p0, vi p1, vi p2, vi p3, vi p4, vi (nT p0), vi (fn1 p1 G1 w_sf), vi (fn1 p2 G1 w_sf), vi (fn1 p3 G1 w_sf), vi (fn1 p4 G1 w_sf), vr b112, .unset] []) (fun _ k => XS.ifYes X140.here hx rfl (pc0 := 154) (pc' := 203) rfl (hb hby at_154) rfl ((if0 _ _).trans (teq hf142).1) (by decide) (by decide) k) ?_
            refine gb (mkF m 204 #[vi p0, vi p1, vi p2, vi p3, vi p4, vi (nT p0), vi (fn1 p1 G1 w_sf), vi (fn1 p2 G1 w_sf), vi (fn1 p3 G1 w_sf), vi (fn1 p4 G1 w_sf), vr b112, .unset] [(.int 0)]) (fun _ k => XS.iconst X140.here hx rfl (hb hby at_203) k) ?_
            exact J121 _ _ X140 e140 N140 (0 : Int32) (show (0 : Int32) = (fj0_10 p0 p1 p2 p3 p4 G1 w_sf) by unfold fj0_10; rw [if_pos hf142]; try rfl)
          · refine gb (mkF m 157 #[vi p0, vi p1, vi p2, vi p3, vi p4, vi (nT p0), vi (fn1 p1 G1 w_sf), vi (fn1 p2 G1 w_sf), vi (fn1 p3 G1 w_sf), vi (fn1 p4 G1 w_sf), vr b112, .unset] []) (fun _ k => XS.ifNo X140.here hx rfl (hb hby at_154) rfl ((if0 _ _).trans (feq hf142).1) k) ?_
            refine gb (mkF m 159 #[vi p0, vi p1, vi p2, vi p3, vi p4, vi (nT p0), vi (fn1 p1 G1 w_sf), vi (fn1 p2 G1 w_sf), vi (fn1 p3 G1 w_sf), vi (fn1 p4 G1 w_sf), vr b112, .unset] [(.int (nT p0))]) (fun _ k => XS.iload X140.here hx rfl (hb hby at_157) rfl k) ?_
            refine gb (mkF m 160 #[vi p0, vi p1, vi p2, vi p3, vi p4, vi (nT p0), vi (fn1 p1 G1 w_sf), vi (fn1 p2 G1 w_sf), vi (fn1 p3 G1 w_sf), vi (fn1 p4 G1 w_sf), vr b112, .unset] [(.int 2), (.int (nT p0))]) (fun _ k => XS.iconst X140.here hx rfl (hb hby at_159) k) ?_
            refine gb (mkF m 163 #[vi p0, vi p1, vi p2, vi p3, vi p4, vi (nT p0), vi (fn1 p1 G1 w_sf), vi (fn1 p2 G1 w_sf), vi (fn1 p3 G1 w_sf), vi (fn1 p4 G1 w_sf), vr b112, .unset] []) (fun _ k => XS.icmpNo X140.here hx rfl (hb hby at_160) rfl (flt (by rw [show (nT p0) = (4 : Int32) from (nfour hf5 hf22 hf48 hf78)]; decide)).1 k) ?_
            refine gb (mkF m 165 #[vi p0, vi p1, vi p2, vi p3, vi p4, vi (nT p0), vi (fn1 p1 G1 w_sf), vi (fn1 p2 G1 w_sf), vi (fn1 p3 G1 w_sf), vi (fn1 p4 G1 w_sf), vr b112, .unset] [(.int (fn1 p2 G1 w_sf))]) (fun _ k => XS.iload X140.here hx rfl (hb hby at_163) rfl k) ?_
            obtain ⟨_, _, ⟨T143, L143, k143, n143⟩, -, X143, ⟨Lc143, hQ143, l143, y143, z143⟩, st143⟩ := callS X140 hx (y := mq22) hown (mvT hZ (hW hw 42 rfl)) (mvT hZ (hW hw 43 rfl)) (mvT hZ (hW hw 3 rfl)) (mvT hZ (hW hw 44 rfl)) (by decide) (backOf (W := 0) (rm8 l Z a0' hw [] (fn1 p2 G1 w_sf) G1 w_sf h120 n0 O141 W ) hZ (hW hw 44 rfl) (hW hw 3 rfl) (by decide) (by decide)) (g := (mkF m 165 #[vi p0, vi p1, vi p2, vi p3, vi p4, vi (nT p0), vi (fn1 p1 G1 w_sf), vi (fn1 p2 G1 w_sf), vi (fn1 p3 G1 w_sf), vi (fn1 p4 G1 w_sf), vr b112, .unset] [(.int (fn1 p2 G1 w_sf))])) rfl (by rw [hml]; rfl) (argsL := [(.int (fn1 p2 G1 w_sf))]) (rest := []) (lenOf pd320 rfl) rfl (Nat.le_of_eq rfl) (hb hby at_165) (fun _ _ => ⟨rfl, e140, (by decide : 1 + 0 ≤ _), (by decide : 4 + 0 ≤ _)⟩)
            dsimp only [Pt.U, Pt.locs, Pt.cells, Pt.slots] at X143 l143 y143 z143 st143 hQ143
            subst l143 y143 z143
            obtain ⟨rfl, N143q, e143⟩ := hQ143
            have N143 := Fr.app N140 N143q
            refine gb (mkF m 168 #[vi p0, vi p1, vi p2, vi p3, vi p4, vi (nT p0), vi (fn1 p1 G1 w_sf), vi (fn1 p2 G1 w_sf), vi (fn1 p3 G1 w_sf), vi (fn1 p4 G1 w_sf), vr b112, .unset] [(.int (fn8 (fn1 p2 G1 w_sf) G1 w_sf))]) st143 ?_
            by_cases hf144 : (fn8 (fn1 p2 G1 w_sf) G1 w_sf) = (0 : Int32)
            · refine gb (mkF m 203 #[vi p0, vi p1, vi p2, vi p3, vi p4, vi (nT p0), vi (fn1 p1 G1 w_sf), vi (fn1 p2 G1 w_sf), vi (fn1 p3 G1 w_sf), vi (fn1 p4 G1 w_sf), vr b112, .unset] []) (fun _ k => XS.ifYes X143.here hx rfl (pc0 := 168) (pc' := 203) rfl (hb hby at_168) rfl ((if0 _ _).trans (teq hf144).1) (by decide) (by decide) k) ?_
              refine gb (mkF m 204 #[vi p0, vi p1, vi p2, vi p3, vi p4, vi (nT p0), vi (fn1 p1 G1 w_sf), vi (fn1 p2 G1 w_sf), vi (fn1 p3 G1 w_sf), vi (fn1 p4 G1 w_sf), vr b112, .unset] [(.int 0)]) (fun _ k => XS.iconst X143.here hx rfl (hb hby at_203) k) ?_
              exact J121 _ _ X143 e143 N143 (0 : Int32) (show (0 : Int32) = (fj0_10 p0 p1 p2 p3 p4 G1 w_sf) by unfold fj0_10; rw [if_neg hf142, if_pos hf144]; try rfl)
            · refine gb (mkF m 171 #[vi p0, vi p1, vi p2, vi p3, vi p4, vi (nT p0), vi (fn1 p1 G1 w_sf), vi (fn1 p2 G1 w_sf), vi (fn1 p3 G1 w_sf), vi (fn1 p4 G1 w_sf), vr b112, .unset] []) (fun _ k => XS.ifNo X143.here hx rfl (hb hby at_168) rfl ((if0 _ _).trans (feq hf144).1) k) ?_
              refine gb (mkF m 173 #[vi p0, vi p1, vi p2, vi p3, vi p4, vi (nT p0), vi (fn1 p1 G1 w_sf), vi (fn1 p2 G1 w_sf), vi (fn1 p3 G1 w_sf), vi (fn1 p4 G1 w_sf), vr b112, .unset] [(.int (nT p0))]) (fun _ k => XS.iload X143.here hx rfl (hb hby at_171) rfl k) ?_
              refine gb (mkF m 174 #[vi p0, vi p1, vi p2, vi p3, vi p4, vi (nT p0), vi (fn1 p1 G1 w_sf), vi (fn1 p2 G1 w_sf), vi (fn1 p3 G1 w_sf), vi (fn1 p4 G1 w_sf), vr b112, .unset] [(.int 3), (.int (nT p0))]) (fun _ k => XS.iconst X143.here hx rfl (hb hby at_173) k) ?_
              refine gb (mkF m 177 #[vi p0, vi p1, vi p2, vi p3, vi p4, vi (nT p0), vi (fn1 p1 G1 w_sf), vi (fn1 p2 G1 w_sf), vi (fn1 p3 G1 w_sf), vi (fn1 p4 G1 w_sf), vr b112, .unset] []) (fun _ k => XS.icmpNo X143.here hx rfl (hb hby at_174) rfl (flt (by rw [show (nT p0) = (4 : Int32) from (nfour hf5 hf22 hf48 hf78)]; decide)).1 k) ?_
              refine gb (mkF m 179 #[vi p0, vi p1, vi p2, vi p3, vi p4, vi (nT p0), vi (fn1 p1 G1 w_sf), vi (fn1 p2 G1 w_sf), vi (fn1 p3 G1 w_sf), vi (fn1 p4 G1 w_sf), vr b112, .unset] [(.int (fn1 p3 G1 w_sf))]) (fun _ k => XS.iload X143.here hx rfl (hb hby at_177) rfl k) ?_
              obtain ⟨_, _, ⟨T145, L145, k145, n145⟩, -, X145, ⟨Lc145, hQ145, l145, y145, z145⟩, st145⟩ := callS X143 hx (y := mq22) hown (mvT hZ (hW hw 42 rfl)) (mvT hZ (hW hw 43 rfl)) (mvT hZ (hW hw 3 rfl)) (mvT hZ (hW hw 44 rfl)) (by decide) (backOf (W := 0) (rm8 l Z a0' hw [] (fn1 p3 G1 w_sf) G1 w_sf h120 n0 O141 W ) hZ (hW hw 44 rfl) (hW hw 3 rfl) (by decide) (by decide)) (g := (mkF m 179 #[vi p0, vi p1, vi p2, vi p3, vi p4, vi (nT p0), vi (fn1 p1 G1 w_sf), vi (fn1 p2 G1 w_sf), vi (fn1 p3 G1 w_sf), vi (fn1 p4 G1 w_sf), vr b112, .unset] [(.int (fn1 p3 G1 w_sf))])) rfl (by rw [hml]; rfl) (argsL := [(.int (fn1 p3 G1 w_sf))]) (rest := []) (lenOf pd320 rfl) rfl (Nat.le_of_eq rfl) (hb hby at_179) (fun _ _ => ⟨rfl, e143, (by decide : 1 + 0 ≤ _), (by decide : 4 + 0 ≤ _)⟩)
              dsimp only [Pt.U, Pt.locs, Pt.cells, Pt.slots] at X145 l145 y145 z145 st145 hQ145
              subst l145 y145 z145
              obtain ⟨rfl, N145q, e145⟩ := hQ145
              have N145 := Fr.app N143 N145q
              refine gb (mkF m 182 #[vi p0, vi p1, vi p2, vi p3, vi p4, vi (nT p0), vi (fn1 p1 G1 w_sf), vi (fn1 p2 G1 w_sf), vi (fn1 p3 G1 w_sf), vi (fn1 p4 G1 w_sf), vr b112, .unset] [(.int (fn8 (fn1 p3 G1 w_sf) G1 w_sf))]) st145 ?_
              by_cases hf146 : (fn8 (fn1 p3 G1 w_sf) G1 w_sf) = (0 : Int32)
              · refine gb (mkF m 203 #[vi p0, vi p1, vi p2, vi p3, vi p4, vi (nT p0), vi (fn1 p1 G1 w_sf), vi (fn1 p2 G1 w_sf), vi (fn1 p3 G1 w_sf), vi (fn1 p4 G1 w_sf), vr b112, .unset] []) (fun _ k => XS.ifYes X145.here hx rfl (pc0 := 182) (pc' := 203) rfl (hb hby at_182) rfl ((if0 _ _).trans (teq hf146).1) (by decide) (by decide) k) ?_
                refine gb (mkF m 204 #[vi p0, vi p1, vi p2, vi p3, vi p4, vi (nT p0), vi (fn1 p1 G1 w_sf), vi (fn1 p2 G1 w_sf), vi (fn1 p3 G1 w_sf), vi (fn1 p4 G1 w_sf), vr b112, .unset] [(.int 0)]) (fun _ k => XS.iconst X145.here hx rfl (hb hby at_203) k) ?_
                exact J121 _ _ X145 e145 N145 (0 : Int32) (show (0 : Int32) = (fj0_10 p0 p1 p2 p3 p4 G1 w_sf) by unfold fj0_10; rw [if_neg hf142, if_neg hf144, if_pos hf146]; try rfl)
              · refine gb (mkF m 185 #[vi p0, vi p1, vi p2, vi p3, vi p4, vi (nT p0), vi (fn1 p1 G1 w_sf), vi (fn1 p2 G1 w_sf), vi (fn1 p3 G1 w_sf), vi (fn1 p4 G1 w_sf), vr b112, .unset] []) (fun _ k => XS.ifNo X145.here hx rfl (hb hby at_182) rfl ((if0 _ _).trans (feq hf146).1) k) ?_
                refine gb (mkF m 187 #[vi p0, vi p1, vi p2, vi p3, vi p4, vi (nT p0), vi (fn1 p1 G1 w_sf), vi (fn1 p2 G1 w_sf), vi (fn1 p3 G1 w_sf), vi (fn1 p4 G1 w_sf), vr b112, .unset] [(.int (nT p0))]) (fun _ k => XS.iload X145.here hx rfl (hb hby at_185) rfl k) ?_
                refine gb (mkF m 188 #[vi p0, vi p1, vi p2, vi p3, vi p4, vi (nT p0), vi (fn1 p1 G1 w_sf), vi (fn1 p2 G1 w_sf), vi (fn1 p3 G1 w_sf), vi (fn1 p4 G1 w_sf), vr b112, .unset] [(.int 4), (.int (nT p0))]) (fun _ k => XS.iconst X145.here hx rfl (hb hby at_187) k) ?_
                refine gb (mkF m 191 #[vi p0, vi p1, vi p2, vi p3, vi p4, vi (nT p0), vi (fn1 p1 G1 w_sf), vi (fn1 p2 G1 w_sf), vi (fn1 p3 G1 w_sf), vi (fn1 p4 G1 w_sf), vr b112, .unset] []) (fun _ k => XS.icmpNo X145.here hx rfl (hb hby at_188) rfl (flt (by rw [show (nT p0) = (4 : Int32) from (nfour hf5 hf22 hf48 hf78)]; decide)).1 k) ?_
                refine gb (mkF m 193 #[vi p0, vi p1, vi p2, vi p3, vi p4, vi (nT p0), vi (fn1 p1 G1 w_sf), vi (fn1 p2 G1 w_sf), vi (fn1 p3 G1 w_sf), vi (fn1 p4 G1 w_sf), vr b112, .unset] [(.int (fn1 p4 G1 w_sf))]) (fun _ k => XS.iload X145.here hx rfl (hb hby at_191) rfl k) ?_
                obtain ⟨_, _, ⟨T147, L147, k147, n147⟩, -, X147, ⟨Lc147, hQ147, l147, y147, z147⟩, st147⟩ := callS X145 hx (y := mq22) hown (mvT hZ (hW hw 42 rfl)) (mvT hZ (hW hw 43 rfl)) (mvT hZ (hW hw 3 rfl)) (mvT hZ (hW hw 44 rfl)) (by decide) (backOf (W := 0) (rm8 l Z a0' hw [] (fn1 p4 G1 w_sf) G1 w_sf h120 n0 O141 W ) hZ (hW hw 44 rfl) (hW hw 3 rfl) (by decide) (by decide)) (g := (mkF m 193 #[vi p0, vi p1, vi p2, vi p3, vi p4, vi (nT p0), vi (fn1 p1 G1 w_sf), vi (fn1 p2 G1 w_sf), vi (fn1 p3 G1 w_sf), vi (fn1 p4 G1 w_sf), vr b112, .unset] [(.int (fn1 p4 G1 w_sf))])) rfl (by rw [hml]; rfl) (argsL := [(.int (fn1 p4 G1 w_sf))]) (rest := []) (lenOf pd320 rfl) rfl (Nat.le_of_eq rfl) (hb hby at_193) (fun _ _ => ⟨rfl, e145, (by decide : 1 + 0 ≤ _), (by decide : 4 + 0 ≤ _)⟩)
                dsimp only [Pt.U, Pt.locs, Pt.cells, Pt.slots] at X147 l147 y147 z147 st147 hQ147
                subst l147 y147 z147
                obtain ⟨rfl, N147q, e147⟩ := hQ147
                have N147 := Fr.app N145 N147q
                refine gb (mkF m 196 #[vi p0, vi p1, vi p2, vi p3, vi p4, vi (nT p0), vi (fn1 p1 G1 w_sf), vi (fn1 p2 G1 w_sf), vi (fn1 p3 G1 w_sf), vi (fn1 p4 G1 w_sf), vr b112, .unset] [(.int (fn8 (fn1 p4 G1 w_sf) G1 w_sf))]) st147 ?_
                by_cases hf148 : (fn8 (fn1 p4 G1 w_sf) G1 w_sf) = (0 : Int32)
                · refine gb (mkF m 203 #[vi p0, vi p1, vi p2, vi p3, vi p4, vi (nT p0), vi (fn1 p1 G1 w_sf), vi (fn1 p2 G1 w_sf), vi (fn1 p3 G1 w_sf), vi (fn1 p4 G1 w_sf), vr b112, .unset] []) (fun _ k => XS.ifYes X147.here hx rfl (pc0 := 196) (pc' := 203) rfl (hb hby at_196) rfl ((if0 _ _).trans (teq hf148).1) (by decide) (by decide) k) ?_
                  refine gb (mkF m 204 #[vi p0, vi p1, vi p2, vi p3, vi p4, vi (nT p0), vi (fn1 p1 G1 w_sf), vi (fn1 p2 G1 w_sf), vi (fn1 p3 G1 w_sf), vi (fn1 p4 G1 w_sf), vr b112, .unset] [(.int 0)]) (fun _ k => XS.iconst X147.here hx rfl (hb hby at_203) k) ?_
                  exact J121 _ _ X147 e147 N147 (0 : Int32) (show (0 : Int32) = (fj0_10 p0 p1 p2 p3 p4 G1 w_sf) by unfold fj0_10; rw [if_neg hf142, if_neg hf144, if_neg hf146, if_pos hf148]; try rfl)
                · refine gb (mkF m 199 #[vi p0, vi p1, vi p2, vi p3, vi p4, vi (nT p0), vi (fn1 p1 G1 w_sf), vi (fn1 p2 G1 w_sf), vi (fn1 p3 G1 w_sf), vi (fn1 p4 G1 w_sf), vr b112, .unset] []) (fun _ k => XS.ifNo X147.here hx rfl (hb hby at_196) rfl ((if0 _ _).trans (feq hf148).1) k) ?_
                  refine gb (mkF m 200 #[vi p0, vi p1, vi p2, vi p3, vi p4, vi (nT p0), vi (fn1 p1 G1 w_sf), vi (fn1 p2 G1 w_sf), vi (fn1 p3 G1 w_sf), vi (fn1 p4 G1 w_sf), vr b112, .unset] [(.int 1)]) (fun _ k => XS.iconst X147.here hx rfl (hb hby at_199) k) ?_
                  refine gb (mkF m 204 #[vi p0, vi p1, vi p2, vi p3, vi p4, vi (nT p0), vi (fn1 p1 G1 w_sf), vi (fn1 p2 G1 w_sf), vi (fn1 p3 G1 w_sf), vi (fn1 p4 G1 w_sf), vr b112, .unset] [(.int 1)]) (fun _ k => XS.goto X147.here hx rfl (pc0 := 200) (pc' := 204) rfl (hb hby at_200) (by decide) (by decide) k) ?_
                  exact J121 _ _ X147 e147 N147 (1 : Int32) (show (1 : Int32) = (fj0_10 p0 p1 p2 p3 p4 G1 w_sf) by unfold fj0_10; rw [if_neg hf142, if_neg hf144, if_neg hf146, if_neg hf148]; try rfl)
theorem atA {G1 : Int32} {w_sf : Value} {us : List Int32} {i x : Int32} (e : us.getD i.toNatClampNeg 0 = bL x) (hc : nar .char x = x) (hx : ¬ (255 : Int32) < x) : fn12A i us G1 w_sf = x := by
  unfold fn12A fn14
  rw [e, dec_L x hc hx]
  exact hc
theorem atU {G1 : Int32} {w_sf : Value} {us : List Int32} {i x : Int32} (e1 : us.getD (i <<< ((1 : Int32) &&& 31)).toNatClampNeg 0 = bA x) (e2 : us.getD ((i <<< ((1 : Int32) &&& 31)) + (1 : Int32)).toNatClampNeg 0 = bB x) (hc : nar .char x = x) : fn12U i us G1 w_sf = x := by
  unfold fn12U fn22
  rw [at21 e1 e2, hc, hc]
  exact hc
theorem is0A {G1 : Int32} {w_sf : Value}  : fn50A  G1 w_sf = (1 : Int32) := by
  unfold fn50A
  rfl
theorem is1A {G1 : Int32} {w_sf : Value} {y0 : Int32}  (hc0 : nar .char y0 = y0) (hn : ¬ ((255 : Int32) < y0)) : fn51A (bL y0) G1 w_sf = if y0 = (32 : Int32) ∨ y0 = (9 : Int32) then (1 : Int32) else 0 := by
  unfold fn51A
  rw [atA (x := y0) (congrArg (fun k => List.getD [(bL y0)] k 0) (by decide : (0 : Int32).toNatClampNeg = 0)) hc0 (fun q => hn (q))]
theorem is1U {G1 : Int32} {w_sf : Value} {y0 : Int32}  (hc0 : nar .char y0 = y0) (hn : ((255 : Int32) < y0)) : fn51U (bA y0) (bB y0) G1 w_sf = if y0 = (32 : Int32) ∨ y0 = (9 : Int32) then (1 : Int32) else 0 := by
  unfold fn51U
  rw [atU (x := y0) (congrArg (fun k => List.getD [(bA y0), (bB y0)] k 0) (by decide : ((0 : Int32) <<< ((1 : Int32) &&& 31)).toNatClampNeg = 0)) (congrArg (fun k => List.getD [(bA y0), (bB y0)] k 0) (by decide : (((0 : Int32) <<< ((1 : Int32) &&& 31)) + (1 : Int32)).toNatClampNeg = 1)) hc0]
theorem is2A {G1 : Int32} {w_sf : Value} {y0 : Int32} {y1 : Int32}  (hc0 : nar .char y0 = y0) (hc1 : nar .char y1 = y1) (hn : ¬ ((255 : Int32) < y0 ∨ (255 : Int32) < y1)) : fn52A (bL y0) (bL y1) G1 w_sf = if y0 = (32 : Int32) ∨ y0 = (9 : Int32) then if y1 = (32 : Int32) ∨ y1 = (9 : Int32) then (1 : Int32) else 0 else 0 := by
  unfold fn52A
  rw [atA (x := y0) (congrArg (fun k => List.getD [(bL y0), (bL y1)] k 0) (by decide : (0 : Int32).toNatClampNeg = 0)) hc0 (fun q => hn (Or.inl q))]
  rw [atA (x := y1) (congrArg (fun k => List.getD [(bL y0), (bL y1)] k 0) (by decide : (1 : Int32).toNatClampNeg = 1)) hc1 (fun q => hn (Or.inr (q)))]
theorem is2U {G1 : Int32} {w_sf : Value} {y0 : Int32} {y1 : Int32}  (hc0 : nar .char y0 = y0) (hc1 : nar .char y1 = y1) (hn : ((255 : Int32) < y0 ∨ (255 : Int32) < y1)) : fn52U (bA y0) (bB y0) (bA y1) (bB y1) G1 w_sf = if y0 = (32 : Int32) ∨ y0 = (9 : Int32) then if y1 = (32 : Int32) ∨ y1 = (9 : Int32) then (1 : Int32) else 0 else 0 := by
  unfold fn52U
  rw [atU (x := y0) (congrArg (fun k => List.getD [(bA y0), (bB y0), (bA y1), (bB y1)] k 0) (by decide : ((0 : Int32) <<< ((1 : Int32) &&& 31)).toNatClampNeg = 0)) (congrArg (fun k => List.getD [(bA y0), (bB y0), (bA y1), (bB y1)] k 0) (by decide : (((0 : Int32) <<< ((1 : Int32) &&& 31)) + (1 : Int32)).toNatClampNeg = 1)) hc0]
  rw [atU (x := y1) (congrArg (fun k => List.getD [(bA y0), (bB y0), (bA y1), (bB y1)] k 0) (by decide : ((1 : Int32) <<< ((1 : Int32) &&& 31)).toNatClampNeg = 2)) (congrArg (fun k => List.getD [(bA y0), (bB y0), (bA y1), (bB y1)] k 0) (by decide : (((1 : Int32) <<< ((1 : Int32) &&& 31)) + (1 : Int32)).toNatClampNeg = 3)) hc1]
theorem is3A {G1 : Int32} {w_sf : Value} {y0 : Int32} {y1 : Int32} {y2 : Int32}  (hc0 : nar .char y0 = y0) (hc1 : nar .char y1 = y1) (hc2 : nar .char y2 = y2) (hn : ¬ ((255 : Int32) < y0 ∨ (255 : Int32) < y1 ∨ (255 : Int32) < y2)) : fn53A (bL y0) (bL y1) (bL y2) G1 w_sf = if y0 = (32 : Int32) ∨ y0 = (9 : Int32) then if y1 = (32 : Int32) ∨ y1 = (9 : Int32) then if y2 = (32 : Int32) ∨ y2 = (9 : Int32) then (1 : Int32) else 0 else 0 else 0 := by
  unfold fn53A
  rw [atA (x := y0) (congrArg (fun k => List.getD [(bL y0), (bL y1), (bL y2)] k 0) (by decide : (0 : Int32).toNatClampNeg = 0)) hc0 (fun q => hn (Or.inl q))]
  rw [atA (x := y1) (congrArg (fun k => List.getD [(bL y0), (bL y1), (bL y2)] k 0) (by decide : (1 : Int32).toNatClampNeg = 1)) hc1 (fun q => hn (Or.inr (Or.inl q)))]
  rw [atA (x := y2) (congrArg (fun k => List.getD [(bL y0), (bL y1), (bL y2)] k 0) (by decide : (2 : Int32).toNatClampNeg = 2)) hc2 (fun q => hn (Or.inr (Or.inr (q))))]
theorem is3U {G1 : Int32} {w_sf : Value} {y0 : Int32} {y1 : Int32} {y2 : Int32}  (hc0 : nar .char y0 = y0) (hc1 : nar .char y1 = y1) (hc2 : nar .char y2 = y2) (hn : ((255 : Int32) < y0 ∨ (255 : Int32) < y1 ∨ (255 : Int32) < y2)) : fn53U (bA y0) (bB y0) (bA y1) (bB y1) (bA y2) (bB y2) G1 w_sf = if y0 = (32 : Int32) ∨ y0 = (9 : Int32) then if y1 = (32 : Int32) ∨ y1 = (9 : Int32) then if y2 = (32 : Int32) ∨ y2 = (9 : Int32) then (1 : Int32) else 0 else 0 else 0 := by
  unfold fn53U
  rw [atU (x := y0) (congrArg (fun k => List.getD [(bA y0), (bB y0), (bA y1), (bB y1), (bA y2), (bB y2)] k 0) (by decide : ((0 : Int32) <<< ((1 : Int32) &&& 31)).toNatClampNeg = 0)) (congrArg (fun k => List.getD [(bA y0), (bB y0), (bA y1), (bB y1), (bA y2), (bB y2)] k 0) (by decide : (((0 : Int32) <<< ((1 : Int32) &&& 31)) + (1 : Int32)).toNatClampNeg = 1)) hc0]
  rw [atU (x := y1) (congrArg (fun k => List.getD [(bA y0), (bB y0), (bA y1), (bB y1), (bA y2), (bB y2)] k 0) (by decide : ((1 : Int32) <<< ((1 : Int32) &&& 31)).toNatClampNeg = 2)) (congrArg (fun k => List.getD [(bA y0), (bB y0), (bA y1), (bB y1), (bA y2), (bB y2)] k 0) (by decide : (((1 : Int32) <<< ((1 : Int32) &&& 31)) + (1 : Int32)).toNatClampNeg = 3)) hc1]
  rw [atU (x := y2) (congrArg (fun k => List.getD [(bA y0), (bB y0), (bA y1), (bB y1), (bA y2), (bB y2)] k 0) (by decide : ((2 : Int32) <<< ((1 : Int32) &&& 31)).toNatClampNeg = 4)) (congrArg (fun k => List.getD [(bA y0), (bB y0), (bA y1), (bB y1), (bA y2), (bB y2)] k 0) (by decide : (((2 : Int32) <<< ((1 : Int32) &&& 31)) + (1 : Int32)).toNatClampNeg = 5)) hc2]
theorem is4A {G1 : Int32} {w_sf : Value} {y0 : Int32} {y1 : Int32} {y2 : Int32} {y3 : Int32}  (hc0 : nar .char y0 = y0) (hc1 : nar .char y1 = y1) (hc2 : nar .char y2 = y2) (hc3 : nar .char y3 = y3) (hn : ¬ ((255 : Int32) < y0 ∨ (255 : Int32) < y1 ∨ (255 : Int32) < y2 ∨ (255 : Int32) < y3)) : fn54A (bL y0) (bL y1) (bL y2) (bL y3) G1 w_sf = if y0 = (32 : Int32) ∨ y0 = (9 : Int32) then if y1 = (32 : Int32) ∨ y1 = (9 : Int32) then if y2 = (32 : Int32) ∨ y2 = (9 : Int32) then if y3 = (32 : Int32) ∨ y3 = (9 : Int32) then (1 : Int32) else 0 else 0 else 0 else 0 := by
  unfold fn54A
  rw [atA (x := y0) (congrArg (fun k => List.getD [(bL y0), (bL y1), (bL y2), (bL y3)] k 0) (by decide : (0 : Int32).toNatClampNeg = 0)) hc0 (fun q => hn (Or.inl q))]
  rw [atA (x := y1) (congrArg (fun k => List.getD [(bL y0), (bL y1), (bL y2), (bL y3)] k 0) (by decide : (1 : Int32).toNatClampNeg = 1)) hc1 (fun q => hn (Or.inr (Or.inl q)))]
  rw [atA (x := y2) (congrArg (fun k => List.getD [(bL y0), (bL y1), (bL y2), (bL y3)] k 0) (by decide : (2 : Int32).toNatClampNeg = 2)) hc2 (fun q => hn (Or.inr (Or.inr (Or.inl q))))]
  rw [atA (x := y3) (congrArg (fun k => List.getD [(bL y0), (bL y1), (bL y2), (bL y3)] k 0) (by decide : (3 : Int32).toNatClampNeg = 3)) hc3 (fun q => hn (Or.inr (Or.inr (Or.inr (q)))))]
theorem is4U {G1 : Int32} {w_sf : Value} {y0 : Int32} {y1 : Int32} {y2 : Int32} {y3 : Int32}  (hc0 : nar .char y0 = y0) (hc1 : nar .char y1 = y1) (hc2 : nar .char y2 = y2) (hc3 : nar .char y3 = y3) (hn : ((255 : Int32) < y0 ∨ (255 : Int32) < y1 ∨ (255 : Int32) < y2 ∨ (255 : Int32) < y3)) : fn54U (bA y0) (bB y0) (bA y1) (bB y1) (bA y2) (bB y2) (bA y3) (bB y3) G1 w_sf = if y0 = (32 : Int32) ∨ y0 = (9 : Int32) then if y1 = (32 : Int32) ∨ y1 = (9 : Int32) then if y2 = (32 : Int32) ∨ y2 = (9 : Int32) then if y3 = (32 : Int32) ∨ y3 = (9 : Int32) then (1 : Int32) else 0 else 0 else 0 else 0 := by
  unfold fn54U
  rw [atU (x := y0) (congrArg (fun k => List.getD [(bA y0), (bB y0), (bA y1), (bB y1), (bA y2), (bB y2), (bA y3), (bB y3)] k 0) (by decide : ((0 : Int32) <<< ((1 : Int32) &&& 31)).toNatClampNeg = 0)) (congrArg (fun k => List.getD [(bA y0), (bB y0), (bA y1), (bB y1), (bA y2), (bB y2), (bA y3), (bB y3)] k 0) (by decide : (((0 : Int32) <<< ((1 : Int32) &&& 31)) + (1 : Int32)).toNatClampNeg = 1)) hc0]
  rw [atU (x := y1) (congrArg (fun k => List.getD [(bA y0), (bB y0), (bA y1), (bB y1), (bA y2), (bB y2), (bA y3), (bB y3)] k 0) (by decide : ((1 : Int32) <<< ((1 : Int32) &&& 31)).toNatClampNeg = 2)) (congrArg (fun k => List.getD [(bA y0), (bB y0), (bA y1), (bB y1), (bA y2), (bB y2), (bA y3), (bB y3)] k 0) (by decide : (((1 : Int32) <<< ((1 : Int32) &&& 31)) + (1 : Int32)).toNatClampNeg = 3)) hc1]
  rw [atU (x := y2) (congrArg (fun k => List.getD [(bA y0), (bB y0), (bA y1), (bB y1), (bA y2), (bB y2), (bA y3), (bB y3)] k 0) (by decide : ((2 : Int32) <<< ((1 : Int32) &&& 31)).toNatClampNeg = 4)) (congrArg (fun k => List.getD [(bA y0), (bB y0), (bA y1), (bB y1), (bA y2), (bB y2), (bA y3), (bB y3)] k 0) (by decide : (((2 : Int32) <<< ((1 : Int32) &&& 31)) + (1 : Int32)).toNatClampNeg = 5)) hc2]
  rw [atU (x := y3) (congrArg (fun k => List.getD [(bA y0), (bB y0), (bA y1), (bB y1), (bA y2), (bB y2), (bA y3), (bB y3)] k 0) (by decide : ((3 : Int32) <<< ((1 : Int32) &&& 31)).toNatClampNeg = 6)) (congrArg (fun k => List.getD [(bA y0), (bB y0), (bA y1), (bB y1), (bA y2), (bB y2), (bA y3), (bB y3)] k 0) (by decide : (((3 : Int32) <<< ((1 : Int32) &&& 31)) + (1 : Int32)).toNatClampNeg = 7)) hc3]
theorem sp (x : Int32) (G1 : Int32) (w_sf : Value) : fn8 x G1 w_sf = if x = (32 : Int32) ∨ x = (9 : Int32) then 1 else 0 := by
  unfold fn8; by_cases h1 : x = 32
  · simp [h1]
  · by_cases h2 : x = 9
    · simp [h2]
    · simp [h1, h2]
theorem lefj0_0 (p0 p1 p2 p3 p4 : Int32) (G1 : Int32) (w_sf : Value) : fj0_0 p0 p1 p2 p3 p4 G1 w_sf = 1 := rfl
theorem lefj0_2 (p0 p1 p2 p3 p4 : Int32) (G1 : Int32) (w_sf : Value)  (hn : ¬ ((255 : Int32) < (fn1 p1 G1 w_sf))) : fj0_2 p0 p1 p2 p3 p4 G1 w_sf = 1 := by
  unfold fj0_2
  simp only [nar_fn1]
  rw [is1A (nar_fn1 p1 G1 w_sf) hn]
  unfold fj0_1
  simp only [sp]
  generalize fn1 p1 G1 w_sf = y0
  by_cases h0 : y0 = (32 : Int32) ∨ y0 = (9 : Int32) <;> simp [h0]
theorem lefj0_3 (p0 p1 p2 p3 p4 : Int32) (G1 : Int32) (w_sf : Value)  (hn : ((255 : Int32) < (fn1 p1 G1 w_sf))) : fj0_3 p0 p1 p2 p3 p4 G1 w_sf = 1 := by
  unfold fj0_3
  simp only [nar_fn1]
  rw [is1U (nar_fn1 p1 G1 w_sf) hn]
  unfold fj0_1
  simp only [sp]
  generalize fn1 p1 G1 w_sf = y0
  by_cases h0 : y0 = (32 : Int32) ∨ y0 = (9 : Int32) <;> simp [h0]
theorem lefj0_5 (p0 p1 p2 p3 p4 : Int32) (G1 : Int32) (w_sf : Value)  (hn : ¬ ((255 : Int32) < (fn1 p1 G1 w_sf) ∨ (255 : Int32) < (fn1 p2 G1 w_sf))) : fj0_5 p0 p1 p2 p3 p4 G1 w_sf = 1 := by
  unfold fj0_5
  simp only [nar_fn1]
  rw [is2A (nar_fn1 p1 G1 w_sf) (nar_fn1 p2 G1 w_sf) hn]
  unfold fj0_4
  simp only [sp]
  generalize fn1 p1 G1 w_sf = y0
  generalize fn1 p2 G1 w_sf = y1
  by_cases h0 : y0 = (32 : Int32) ∨ y0 = (9 : Int32) <;> by_cases h1 : y1 = (32 : Int32) ∨ y1 = (9 : Int32) <;> simp [h0, h1]
theorem lefj0_6 (p0 p1 p2 p3 p4 : Int32) (G1 : Int32) (w_sf : Value)  (hn : ((255 : Int32) < (fn1 p1 G1 w_sf) ∨ (255 : Int32) < (fn1 p2 G1 w_sf))) : fj0_6 p0 p1 p2 p3 p4 G1 w_sf = 1 := by
  unfold fj0_6
  simp only [nar_fn1]
  rw [is2U (nar_fn1 p1 G1 w_sf) (nar_fn1 p2 G1 w_sf) hn]
  unfold fj0_4
  simp only [sp]
  generalize fn1 p1 G1 w_sf = y0
  generalize fn1 p2 G1 w_sf = y1
  by_cases h0 : y0 = (32 : Int32) ∨ y0 = (9 : Int32) <;> by_cases h1 : y1 = (32 : Int32) ∨ y1 = (9 : Int32) <;> simp [h0, h1]
theorem lefj0_8 (p0 p1 p2 p3 p4 : Int32) (G1 : Int32) (w_sf : Value)  (hn : ¬ ((255 : Int32) < (fn1 p1 G1 w_sf) ∨ (255 : Int32) < (fn1 p2 G1 w_sf) ∨ (255 : Int32) < (fn1 p3 G1 w_sf))) : fj0_8 p0 p1 p2 p3 p4 G1 w_sf = 1 := by
  unfold fj0_8
  simp only [nar_fn1]
  rw [is3A (nar_fn1 p1 G1 w_sf) (nar_fn1 p2 G1 w_sf) (nar_fn1 p3 G1 w_sf) hn]
  unfold fj0_7
  simp only [sp]
  generalize fn1 p1 G1 w_sf = y0
  generalize fn1 p2 G1 w_sf = y1
  generalize fn1 p3 G1 w_sf = y2
  by_cases h0 : y0 = (32 : Int32) ∨ y0 = (9 : Int32) <;> by_cases h1 : y1 = (32 : Int32) ∨ y1 = (9 : Int32) <;> by_cases h2 : y2 = (32 : Int32) ∨ y2 = (9 : Int32) <;> simp [h0, h1, h2]
theorem lefj0_9 (p0 p1 p2 p3 p4 : Int32) (G1 : Int32) (w_sf : Value)  (hn : ((255 : Int32) < (fn1 p1 G1 w_sf) ∨ (255 : Int32) < (fn1 p2 G1 w_sf) ∨ (255 : Int32) < (fn1 p3 G1 w_sf))) : fj0_9 p0 p1 p2 p3 p4 G1 w_sf = 1 := by
  unfold fj0_9
  simp only [nar_fn1]
  rw [is3U (nar_fn1 p1 G1 w_sf) (nar_fn1 p2 G1 w_sf) (nar_fn1 p3 G1 w_sf) hn]
  unfold fj0_7
  simp only [sp]
  generalize fn1 p1 G1 w_sf = y0
  generalize fn1 p2 G1 w_sf = y1
  generalize fn1 p3 G1 w_sf = y2
  by_cases h0 : y0 = (32 : Int32) ∨ y0 = (9 : Int32) <;> by_cases h1 : y1 = (32 : Int32) ∨ y1 = (9 : Int32) <;> by_cases h2 : y2 = (32 : Int32) ∨ y2 = (9 : Int32) <;> simp [h0, h1, h2]
theorem lefj0_11 (p0 p1 p2 p3 p4 : Int32) (G1 : Int32) (w_sf : Value)  (hn : ¬ ((255 : Int32) < (fn1 p1 G1 w_sf) ∨ (255 : Int32) < (fn1 p2 G1 w_sf) ∨ (255 : Int32) < (fn1 p3 G1 w_sf) ∨ (255 : Int32) < (fn1 p4 G1 w_sf))) : fj0_11 p0 p1 p2 p3 p4 G1 w_sf = 1 := by
  unfold fj0_11
  simp only [nar_fn1]
  rw [is4A (nar_fn1 p1 G1 w_sf) (nar_fn1 p2 G1 w_sf) (nar_fn1 p3 G1 w_sf) (nar_fn1 p4 G1 w_sf) hn]
  unfold fj0_10
  simp only [sp]
  generalize fn1 p1 G1 w_sf = y0
  generalize fn1 p2 G1 w_sf = y1
  generalize fn1 p3 G1 w_sf = y2
  generalize fn1 p4 G1 w_sf = y3
  by_cases h0 : y0 = (32 : Int32) ∨ y0 = (9 : Int32) <;> by_cases h1 : y1 = (32 : Int32) ∨ y1 = (9 : Int32) <;> by_cases h2 : y2 = (32 : Int32) ∨ y2 = (9 : Int32) <;> by_cases h3 : y3 = (32 : Int32) ∨ y3 = (9 : Int32) <;> simp [h0, h1, h2, h3]
theorem lefj0_12 (p0 p1 p2 p3 p4 : Int32) (G1 : Int32) (w_sf : Value)  (hn : ((255 : Int32) < (fn1 p1 G1 w_sf) ∨ (255 : Int32) < (fn1 p2 G1 w_sf) ∨ (255 : Int32) < (fn1 p3 G1 w_sf) ∨ (255 : Int32) < (fn1 p4 G1 w_sf))) : fj0_12 p0 p1 p2 p3 p4 G1 w_sf = 1 := by
  unfold fj0_12
  simp only [nar_fn1]
  rw [is4U (nar_fn1 p1 G1 w_sf) (nar_fn1 p2 G1 w_sf) (nar_fn1 p3 G1 w_sf) (nar_fn1 p4 G1 w_sf) hn]
  unfold fj0_10
  simp only [sp]
  generalize fn1 p1 G1 w_sf = y0
  generalize fn1 p2 G1 w_sf = y1
  generalize fn1 p3 G1 w_sf = y2
  generalize fn1 p4 G1 w_sf = y3
  by_cases h0 : y0 = (32 : Int32) ∨ y0 = (9 : Int32) <;> by_cases h1 : y1 = (32 : Int32) ∨ y1 = (9 : Int32) <;> by_cases h2 : y2 = (32 : Int32) ∨ y2 = (9 : Int32) <;> by_cases h3 : y3 = (32 : Int32) ∨ y3 = (9 : Int32) <;> simp [h0, h1, h2, h3]
theorem plain (p0 p1 p2 p3 p4 : Int32) (G1 : Int32) (w_sf : Value) : fn0 p0 p1 p2 p3 p4 G1 w_sf = 1 := by
  have b1 : nar .boolean (1 : Int32) = 1 := by decide
  unfold fn0
  simp only [nar_fn1]
  by_cases n0 : ((p0 &&& (2147483647 : Int32)) % (5 : Int32)) = (0 : Int32)
  · rw [if_pos n0, lefj0_0]; exact b1
  · rw [if_neg n0]
    by_cases n1 : ((p0 &&& (2147483647 : Int32)) % (5 : Int32)) = (1 : Int32)
    · rw [if_pos n1]
      by_cases hn : (255 : Int32) < (fn1 p1 G1 w_sf)
      · rw [if_pos hn, lefj0_3 p0 p1 p2 p3 p4 G1 w_sf hn]; exact b1
      · rw [if_neg hn, lefj0_2 p0 p1 p2 p3 p4 G1 w_sf hn]; exact b1
    · rw [if_neg n1]
      by_cases n2 : ((p0 &&& (2147483647 : Int32)) % (5 : Int32)) = (2 : Int32)
      · rw [if_pos n2]
        by_cases hn : (255 : Int32) < (fn1 p1 G1 w_sf) ∨ (255 : Int32) < (fn1 p2 G1 w_sf)
        · rw [if_pos hn, lefj0_6 p0 p1 p2 p3 p4 G1 w_sf hn]; exact b1
        · rw [if_neg hn, lefj0_5 p0 p1 p2 p3 p4 G1 w_sf hn]; exact b1
      · rw [if_neg n2]
        by_cases n3 : ((p0 &&& (2147483647 : Int32)) % (5 : Int32)) = (3 : Int32)
        · rw [if_pos n3]
          by_cases hn : (255 : Int32) < (fn1 p1 G1 w_sf) ∨ (255 : Int32) < (fn1 p2 G1 w_sf) ∨ (255 : Int32) < (fn1 p3 G1 w_sf)
          · rw [if_pos hn, lefj0_9 p0 p1 p2 p3 p4 G1 w_sf hn]; exact b1
          · rw [if_neg hn, lefj0_8 p0 p1 p2 p3 p4 G1 w_sf hn]; exact b1
        · rw [if_neg n3]
          by_cases hn : (255 : Int32) < (fn1 p1 G1 w_sf) ∨ (255 : Int32) < (fn1 p2 G1 w_sf) ∨ (255 : Int32) < (fn1 p3 G1 w_sf) ∨ (255 : Int32) < (fn1 p4 G1 w_sf)
          · rw [if_pos hn, lefj0_12 p0 p1 p2 p3 p4 G1 w_sf hn]; exact b1
          · rw [if_neg hn, lefj0_11 p0 p1 p2 p3 p4 G1 w_sf hn]; exact b1
theorem comes_1 {Post : Tables → Env → Array Value → State → Outcome → State → Prop} (hpost : ∀ tb e args s v u, (limb_1_1.after args s (.returned v) u = true ∧ limb_1_2.after args s (.returned v) u = true ∧ True) → FramedW s (.returned v) u (Jvm.fieldLocs frame_1_writes args s ++ Jvm.arrayLocs frame_1_arrays args s ++ Jvm.staticLocs frame_1_statics s) 24 1152 → Post tb e args s (.returned v) u) :
    ArmFor flags0 classFile x code maxLocals ret World_1 tables_1 room_1 Calls_1 rest_1 Pre_1 Post := by
  intro l hfl _ _ p e ha hc hk s m args below hf hA hF happ hP
  obtain ⟨hcalls, hrest, hpre⟩ := hP
  obtain ⟨-, -, -, hnamed, -, -, -, hat⟩ := (Spec.applies_iff hf).mp happ
  obtain ⟨hg, hn⟩ := and_e (Cond.before_iff.mp (show (Jvm.Cond.and given_1 narrow_1).before args s = true from hpre))
  obtain ⟨ga1, gb1⟩ := and_e hg
  obtain ⟨ga2, gb2⟩ := and_e gb1
  obtain ⟨ga3, gb3⟩ := and_e gb2
  obtain ⟨ga4, gb4⟩ := and_e gb3
  obtain ⟨ga5, gb5⟩ := and_e gb4
  obtain ⟨w0, w1, w2, w3, w4, rfl⟩ : ∃ w0 w1 w2 w3 w4 : Value, args = #[w0, w1, w2, w3, w4] := by
    have hs : args.size = 5 := by simpa [Cond.value, given_1] using ga1
    obtain ⟨L⟩ := args
    match L, hs with
    | [w0, w1, w2, w3, w4], _ => exact ⟨w0, w1, w2, w3, w4, rfl⟩
  have hw := fun d (hd : d ∈ tables_1) => atoms_spec (ws := Jvm.Cond.code x code maxLocals ret :: tables_1) hat d (List.mem_cons_of_mem _ hd)
  have hfit : Fit s := fun {y c} hc i hi => by
    obtain ⟨ha, rfl⟩ := Array.getElem?_eq_some_iff.mp hc
    have q := List.all_eq_true.mp ((Array.all_eq_true_iff_forall_mem.mp hF) _ (Array.getElem_mem ha)) i (List.mem_range.mpr hi)
    simpa [Array.getElem?_eq_getElem hi] using q
  obtain ⟨i0, ei0⟩ := is_v ga2
  obtain rfl : w0 = (.int i0) := Option.some.inj ei0
  obtain ⟨i1, ei1⟩ := is_v ga3
  obtain rfl : w1 = (.int i1) := Option.some.inj ei1
  obtain ⟨i2, ei2⟩ := is_v ga4
  obtain rfl : w2 = (.int i2) := Option.some.inj ei2
  obtain ⟨i3, ei3⟩ := is_v ga5
  obtain rfl : w3 = (.int i3) := Option.some.inj ei3
  obtain ⟨i4, ei4⟩ := is_v gb5
  obtain rfl : w4 = (.int i4) := Option.some.inj ei4
  obtain ⟨hsets, hown0⟩ := atoms_of _ (rest_1_c_eq ▸ (show rest_1_c.before _ s = true from hrest))
  obtain ⟨G1, ev_G1⟩ := is_v (Cond.before_iff.mp (hsets _ (List.mem_of_getElem? (i := 1) rfl)))
  have S_G1 := Sta.start ev_G1 (Or.inl (hsets _ (List.mem_of_getElem? (i := 0) rfl)))
  have n_G1 : ¬ G1 = (0 : Int32) := fun q => by
    have u := not_v (Cond.before_iff.mp (hsets _ (List.mem_of_getElem? (i := 2) rfl)))
    rw [eq_i ev_G1 (Term.int_eval 0) (by rw [q])] at u
    cases u
  obtain ⟨w_sf, ev_sf, r_sf⟩ := isR_v (Cond.before_iff.mp (hsets _ (List.mem_of_getElem? (i := 8) rfl)))
  have S_sf := Sta.start ev_sf (Or.inl (hsets _ (List.mem_of_getElem? (i := 7) rfl)))
  have S__assertionsDisabled := Sta.start (eqI_v (Cond.before_iff.mp (hsets _ (List.mem_of_getElem? (i := 12) rfl)))) (Or.inl (hsets _ (List.mem_of_getElem? (i := 11) rfl)))
  have S_HI_BYTE_SHIFT := Sta.start (eqI_v (Cond.before_iff.mp (hsets _ (List.mem_of_getElem? (i := 15) rfl)))) (Or.inl (hsets _ (List.mem_of_getElem? (i := 14) rfl)))
  have S_LO_BYTE_SHIFT := Sta.start (eqI_v (Cond.before_iff.mp (hsets _ (List.mem_of_getElem? (i := 18) rfl)))) (Or.inl (hsets _ (List.mem_of_getElem? (i := 17) rfl)))
  have hCH0 : CHv s EL0 s.vm s.heap := CHv.start (hEL0 hw) hcalls.1 ((hsets _ (List.mem_of_getElem? (i := 2) rfl)) : Jvm.Lit.compactW.before _ s = true) (hW hw 20 rfl) (hW hw 7 rfl)
  have W : Wd s G1 w_sf := ⟨S_G1, n_G1, S_sf, (ref_cases r_sf), S__assertionsDisabled, S_HI_BYTE_SHIFT, S_LO_BYTE_SHIFT⟩
  have hpl : fn0 i0 i1 i2 i3 i4 G1 w_sf = 1 := plain i0 i1 i2 i3 i4 G1 w_sf
  obtain ⟨n, o, h1, h2, h3, v, L, rfl, ⟨hv, N⟩, hq⟩ := rm0 l s _ hw tables_1 i0 i1 i2 i3 i4 G1 w_sf s.heap s.heap.size (Old.start s) W p e ha hc hk s m _ below hf ((Spec.applies_iff_loose hf).mp happ).1 ⟨rfl, State.Warmed39.refl s, rfl, hCH0, fun _ hq => nomatch hq⟩ trivial
  rw [hpl] at hv
  subst hv
  refine ⟨n, _, h1, h2, h3, hpost _ _ _ _ _ _ ⟨Cond.after_iff.mpr rfl, Cond.after_iff.mpr (eq_i res_at (Term.int_eval (1)) rfl), trivial⟩ ⟨hq.1, hq.2.1, hq.2.2.1, (hq.2.2.2.sift fun y hy => Or.inr (N y hy)).mono (by decide) (by decide)⟩⟩
theorem main_1_1 : Claimed_1_1 := comes_1 fun _ _ _ _ _ _ h hF => ⟨h.1, hF⟩
theorem main_1_2 : Claimed_1_2 := comes_1 fun _ _ _ _ _ _ h hF => ⟨h.2.1, hF⟩
end Jvm.Pilot.@@N@@
/-! WITNESS -/
namespace Jvm.Pilot.@@N@@
open Jvm Jvm.ClassFile Sem Op Lib Jvm.Free Jvm.Stand Jvm.Pilot.@@N@@.Jvm.D
/-! MADE BY PROGRAM (witnessworld.py) out of the Statement's table words and the real class files: 20 classes; the members and pool entries that the words name. The judged class is class 1, her method 1. -/
namespace start1
open Jvm.ClassFile
def u (s : String) : CpInfo := .utf8 (stringToUtf16 s)
/-- a pool by its gaps: so many unusable entries, then the entry; so many at the end -/
def gap : Nat → List CpInfo → List CpInfo
  | 0, r => r
  | n + 1, r => .unusable :: gap n r
def poolList (es : List (Nat × CpInfo)) (last : Nat) : List CpInfo := es.foldr (fun e r => gap e.1 (e.2 :: r)) (gap last [])
def pool (es : List (Nat × CpInfo)) (last : Nat) : Array CpInfo := ⟨poolList es last⟩
def fileOf (pool : Array CpInfo) (this : Nat) (attrs : Array Attribute := #[]) (ms : Array MethodInfo := #[]) (fl : Nat := 33) (sup : Nat := 0) (ifs : Array Nat := #[]) (fds : Array FieldInfo := #[]) : ClassFile where
  minorVersion := 0
  majorVersion := 65
  constantPool := pool
  accessFlags := fl
  thisClass := this
  superClass := sup
  interfaces := ifs
  fields := fds
  methods := ms
  attributes := attrs
def plain (name : String) (sup : Option ClassId) : Class where
  name := name
  kind := .ordinary
  loader := none
  accessFlags := 33
  super := sup
  interfaces := #[]
  cf := none
  fields := #[]
  methods := #[]
  instanceTypes := #[]
  staticTypes := #[]
  resolved := #[]
  callSites := []
  init := .initialized
  statics := none
  mirror := none

def pool0 : Array CpInfo := pool [(5, u "<init>"), (0, u "()V"), (1, .class_ 10), (1, u "java/lang/Object")] 113

def k0c0 : Code := { maxStack := 0, maxLocals := 1, code := object_method_1_code, exceptionTable := #[], attributes := #[] }
def k0m0 : Method := { name := "<init>", desc := "()V", sig := { parameters := [], returnType := none }, accessFlags := 1, code := some k0c0 }
/-- java/lang/Object -/
def k0 : Class := { plain "java/lang/Object" none with
  accessFlags := 33
  interfaces := #[]
  cf := some (fileOf pool0 8 #[] #[{ accessFlags := 1, nameIndex := 5, descriptorIndex := 6, attributes := #[] }] 33 0 #[] #[])
  fields := #[]
  methods := #[k0m0]
  instanceTypes := #[]
  staticTypes := #[]
  resolved := Array.replicate 124 none
  statics := none }

def pool1 : Array CpInfo := pool [(2, .class_ 4), (1, u "java/lang/Object"), (0, u "<init>"), (0, u "()V"), (0, .integer 2147483647), (0, .methodref 9 10), (0, .class_ 11), (0, .nameAndType 12 13), (0, u "com/example/gatewarden/gatewarden/formats/PhysicalLinesIsBlankPinLaw"), (0, u "draw"), (0, u "(I)C"), (0, .methodref 9 15), (0, .nameAndType 16 17), (0, u "sep"), (0, u "(C)Z"), (0, .class_ 19), (0, u "java/lang/String"), (0, .methodref 18 21), (0, .nameAndType 5 22), (0, u "([C)V"), (0, .methodref 24 25), (0, .class_ 26), (0, .nameAndType 27 28), (0, u "com/example/gatewarden/gatewarden/formats/PhysicalLines"), (0, u "isBlank"), (0, u "(Ljava/lang/String;)Z"), (2, u "law"), (0, u "(IIIII)Z")] 5

def k1m0 : Method := { name := "<init>", desc := "()V", sig := { parameters := [], returnType := none }, accessFlags := 1, code := none }
def k1c1 : Code := { maxStack := 4, maxLocals := 12, code := code, exceptionTable := #[], attributes := #[] }
def k1m1 : Method := { name := "law", desc := "(IIIII)Z", sig := { parameters := [.int, .int, .int, .int, .int], returnType := some .boolean }, accessFlags := 9, code := some k1c1 }
def k1c2 : Code := { maxStack := 2, maxLocals := 2, code := method_3_code, exceptionTable := #[], attributes := #[] }
def k1m2 : Method := { name := "draw", desc := "(I)C", sig := { parameters := [.int], returnType := some .char }, accessFlags := 10, code := some k1c2 }
def k1c3 : Code := { maxStack := 2, maxLocals := 1, code := method_4_code, exceptionTable := #[], attributes := #[] }
def k1m3 : Method := { name := "sep", desc := "(C)Z", sig := { parameters := [.char], returnType := some .boolean }, accessFlags := 10, code := some k1c3 }
/-- com/example/gatewarden/gatewarden/formats/PhysicalLinesIsBlankPinLaw -/
def k1 : Class := { plain "com/example/gatewarden/gatewarden/formats/PhysicalLinesIsBlankPinLaw" (some 0) with
  accessFlags := 49
  interfaces := #[]
  cf := some (fileOf pool1 9 #[] #[{ accessFlags := 1, nameIndex := 5, descriptorIndex := 6, attributes := #[] }, { accessFlags := 9, nameIndex := 31, descriptorIndex := 32, attributes := #[] }, { accessFlags := 10, nameIndex := 12, descriptorIndex := 13, attributes := #[] }, { accessFlags := 10, nameIndex := 16, descriptorIndex := 17, attributes := #[] }] 49 2 #[] #[])
  fields := #[]
  methods := #[k1m0, k1m1, k1m2, k1m3]
  instanceTypes := #[]
  staticTypes := #[]
  resolved := Array.replicate 38 none
  statics := none }

def pool2 : Array CpInfo := pool [(1, .class_ 2), (0, u "java/io/Serializable"), (0, .class_ 4), (0, u "java/lang/Object")] 2

/-- java/io/Serializable -/
def k2 : Class := { plain "java/io/Serializable" (some 0) with
  accessFlags := 1537
  interfaces := #[]
  cf := some (fileOf pool2 1 #[] #[] 1537 3 #[] #[])
  fields := #[]
  methods := #[]
  instanceTypes := #[]
  staticTypes := #[]
  resolved := Array.replicate 7 none
  statics := none }

def pool3 : Array CpInfo := pool [(1, .class_ 2), (0, u "java/lang/Comparable"), (0, .class_ 4), (0, u "java/lang/Object")] 7

/-- java/lang/Comparable -/
def k3 : Class := { plain "java/lang/Comparable" (some 0) with
  accessFlags := 1537
  interfaces := #[]
  cf := some (fileOf pool3 1 #[] #[] 1537 3 #[] #[])
  fields := #[]
  methods := #[]
  instanceTypes := #[]
  staticTypes := #[]
  resolved := Array.replicate 12 none
  statics := none }

def pool4 : Array CpInfo := pool [(2, .class_ 4), (1, u "java/lang/CharSequence"), (42, .class_ 48), (0, u "java/lang/CharSequence$1CodePointIterator"), (10, .class_ 60), (0, u "java/lang/CharSequence$1CharIterator"), (5, .class_ 67), (0, u "java/lang/Object")] 63

/-- java/lang/CharSequence -/
def k4 : Class := { plain "java/lang/CharSequence" (some 0) with
  accessFlags := 1537
  interfaces := #[]
  cf := some (fileOf pool4 2 #[.nestMembers #[47, 59]] #[] 1537 66 #[] #[])
  fields := #[]
  methods := #[]
  instanceTypes := #[]
  staticTypes := #[]
  resolved := Array.replicate 131 none
  statics := none }

def pool5 : Array CpInfo := pool [(1, .class_ 2), (0, u "java/lang/constant/Constable"), (0, .class_ 4), (0, u "java/lang/Object")] 6

/-- java/lang/constant/Constable -/
def k5 : Class := { plain "java/lang/constant/Constable" (some 0) with
  accessFlags := 1537
  interfaces := #[]
  cf := some (fileOf pool5 1 #[] #[] 1537 3 #[] #[])
  fields := #[]
  methods := #[]
  instanceTypes := #[]
  staticTypes := #[]
  resolved := Array.replicate 11 none
  statics := none }

def pool6 : Array CpInfo := pool [(1, .class_ 2), (0, u "java/lang/constant/ConstantDesc"), (0, .class_ 4), (0, u "java/lang/Object")] 32

/-- java/lang/constant/ConstantDesc -/
def k6 : Class := { plain "java/lang/constant/ConstantDesc" (some 0) with
  accessFlags := 1537
  interfaces := #[]
  cf := some (fileOf pool6 1 #[] #[] 1537 3 #[] #[])
  fields := #[]
  methods := #[]
  instanceTypes := #[]
  staticTypes := #[]
  resolved := Array.replicate 37 none
  statics := none }

def pool7 : Array CpInfo := pool [(1, .methodref 2 3), (0, .class_ 4), (0, .nameAndType 5 6), (0, u "java/lang/Object"), (0, u "<init>"), (0, u "()V"), (0, .string 8), (0, u ""), (0, .fieldref 10 11), (0, .class_ 12), (0, .nameAndType 13 14), (0, u "java/lang/String"), (0, u "value"), (0, u "[B"), (0, .fieldref 10 16), (0, .nameAndType 17 18), (0, u "coder"), (0, u "B"), (2, u "hash"), (0, u "I"), (2, u "hashIsZero"), (0, u "Z"), (0, .methodref 10 28), (0, .nameAndType 5 29), (0, u "([CIILjava/lang/Void;)V"), (8, .fieldref 10 39), (0, .nameAndType 40 26), (0, u "COMPACT_STRINGS"), (1, .class_ 44), (1, u "java/lang/StringUTF16"), (0, u "compress"), (1, .methodref 42 48), (0, .nameAndType 49 50), (0, u "coderFromArrayLen"), (0, u "([BI)B"), (56, .class_ 109), (1, u "java/lang/StringLatin1"), (32, u "()Z"), (34, .methodref 42 178), (0, .nameAndType 45 179), (0, u "([CII)[B"), (154, u "()I"), (0, .methodref 10 336), (0, .nameAndType 17 337), (0, u "()B"), (25, u "([BI)C"), (27, u "(II)V"), (35, u "(I)C"), (64, .methodref 10 493), (0, .nameAndType 494 142), (0, u "isLatin1"), (0, .methodref 107 496), (0, .nameAndType 497 363), (0, u "charAt"), (0, .methodref 42 496), (2, u "checkIndex"), (5, u "length"), (67, .class_ 576), (0, u "java/lang/CharSequence"), (22, u "CASE_INSENSITIVE_ORDER"), (0, u "Ljava/util/Comparator;"), (409, u "([C)V"), (42, .fieldref 1054 1055), (0, .class_ 1056), (0, .nameAndType 1057 1058), (0, u "jdk/internal/util/Preconditions"), (0, u "SIOOBE_FORMATTER"), (0, u "Ljava/util/function/BiFunction;"), (0, .methodref 1054 1060), (0, .nameAndType 501 1061), (0, u "(IILjava/util/function/BiFunction;)I"), (39, u "serialPersistentFields"), (0, u "[Ljava/io/ObjectStreamField;"), (0, .class_ 1104), (0, u "java/lang/String$CaseInsensitiveComparator"), (1, .class_ 1107), (0, u "java/io/Serializable"), (0, .class_ 1109), (0, u "java/lang/Comparable"), (0, .class_ 1111), (0, u "java/lang/constant/Constable"), (0, .class_ 1113), (0, u "java/lang/constant/ConstantDesc"), (2, u "serialVersionUID"), (0, u "J"), (3, u "REPL"), (0, u "C"), (2, u "LATIN1"), (1, u "UTF16")] 323

def k7m0 : Method := { name := "<init>", desc := "()V", sig := { parameters := [], returnType := none }, accessFlags := 1, code := none }
def k7c1 : Code := { maxStack := 5, maxLocals := 2, code := jdk_42_method_3_code, exceptionTable := #[], attributes := #[] }
def k7m1 : Method := { name := "<init>", desc := "([C)V", sig := { parameters := [(.array .char)], returnType := none }, accessFlags := 1, code := some k7c1 }
def k7c2 : Code := { maxStack := 2, maxLocals := 1, code := jdk_42_method_54_code, exceptionTable := #[], attributes := #[] }
def k7m2 : Method := { name := "length", desc := "()I", sig := { parameters := [], returnType := some .int }, accessFlags := 1, code := some k7c2 }
def k7c3 : Code := { maxStack := 2, maxLocals := 2, code := jdk_42_method_56_code, exceptionTable := #[], attributes := #[] }
def k7m3 : Method := { name := "charAt", desc := "(I)C", sig := { parameters := [.int], returnType := some .char }, accessFlags := 1, code := some k7c3 }
def k7c4 : Code := { maxStack := 4, maxLocals := 6, code := jdk_42_method_149_code, exceptionTable := #[], attributes := #[] }
def k7m4 : Method := { name := "<init>", desc := "([CIILjava/lang/Void;)V", sig := { parameters := [(.array .char), .int, .int, (.object "java/lang/Void")], returnType := none }, accessFlags := 2, code := some k7c4 }
def k7c5 : Code := { maxStack := 1, maxLocals := 1, code := jdk_42_method_152_code, exceptionTable := #[], attributes := #[] }
def k7m5 : Method := { name := "coder", desc := "()B", sig := { parameters := [], returnType := some .byte }, accessFlags := 0, code := some k7c5 }
def k7c6 : Code := { maxStack := 1, maxLocals := 1, code := jdk_42_method_154_code, exceptionTable := #[], attributes := #[] }
def k7m6 : Method := { name := "isLatin1", desc := "()Z", sig := { parameters := [], returnType := some .boolean }, accessFlags := 0, code := some k7c6 }
def k7c7 : Code := { maxStack := 3, maxLocals := 2, code := jdk_42_method_155_code, exceptionTable := #[], attributes := #[] }
def k7m7 : Method := { name := "checkIndex", desc := "(II)V", sig := { parameters := [.int, .int], returnType := none }, accessFlags := 8, code := some k7c7 }
/-- java/lang/String -/
def k7 : Class := { plain "java/lang/String" (some 0) with
  accessFlags := 49
  interfaces := #[2, 3, 4, 5, 6]
  cf := some (fileOf pool7 10 #[.nestMembers #[1103]] #[{ accessFlags := 1, nameIndex := 5, descriptorIndex := 6, attributes := #[] }, { accessFlags := 1, nameIndex := 5, descriptorIndex := 1010, attributes := #[] }, { accessFlags := 1, nameIndex := 507, descriptorIndex := 334, attributes := #[] }, { accessFlags := 1, nameIndex := 497, descriptorIndex := 427, attributes := #[] }, { accessFlags := 2, nameIndex := 5, descriptorIndex := 29, attributes := #[] }, { accessFlags := 0, nameIndex := 17, descriptorIndex := 337, attributes := #[] }, { accessFlags := 0, nameIndex := 494, descriptorIndex := 142, attributes := #[] }, { accessFlags := 8, nameIndex := 501, descriptorIndex := 391, attributes := #[] }] 49 2 #[1106, 1108, 575, 1110, 1112] #[{ accessFlags := 18, nameIndex := 13, descriptorIndex := 14, attributes := #[] }, { accessFlags := 18, nameIndex := 17, descriptorIndex := 18, attributes := #[] }, { accessFlags := 2, nameIndex := 21, descriptorIndex := 22, attributes := #[] }, { accessFlags := 2, nameIndex := 25, descriptorIndex := 26, attributes := #[] }, { accessFlags := 26, nameIndex := 1116, descriptorIndex := 1117, attributes := #[] }, { accessFlags := 24, nameIndex := 40, descriptorIndex := 26, attributes := #[] }, { accessFlags := 26, nameIndex := 1101, descriptorIndex := 1102, attributes := #[] }, { accessFlags := 26, nameIndex := 1121, descriptorIndex := 1122, attributes := #[] }, { accessFlags := 25, nameIndex := 599, descriptorIndex := 600, attributes := #[] }, { accessFlags := 24, nameIndex := 1125, descriptorIndex := 18, attributes := #[] }, { accessFlags := 24, nameIndex := 1127, descriptorIndex := 18, attributes := #[] }])
  fields := #[{ name := "value", type := (.array .byte), accessFlags := 18, slot := 0, constantValue := 0 }, { name := "coder", type := .byte, accessFlags := 18, slot := 1, constantValue := 0 }, { name := "hash", type := .int, accessFlags := 2, slot := 2, constantValue := 0 }, { name := "hashIsZero", type := .boolean, accessFlags := 2, slot := 3, constantValue := 0 }, { name := "serialVersionUID", type := .long, accessFlags := 26, slot := 0, constantValue := 0 }, { name := "COMPACT_STRINGS", type := .boolean, accessFlags := 24, slot := 1, constantValue := 0 }, { name := "serialPersistentFields", type := (.array (.object "java/io/ObjectStreamField")), accessFlags := 26, slot := 2, constantValue := 0 }, { name := "REPL", type := .char, accessFlags := 26, slot := 3, constantValue := 0 }, { name := "CASE_INSENSITIVE_ORDER", type := (.object "java/util/Comparator"), accessFlags := 25, slot := 4, constantValue := 0 }, { name := "LATIN1", type := .byte, accessFlags := 24, slot := 5, constantValue := 0 }, { name := "UTF16", type := .byte, accessFlags := 24, slot := 6, constantValue := 0 }]
  methods := #[k7m0, k7m1, k7m2, k7m3, k7m4, k7m5, k7m6, k7m7]
  instanceTypes := #[(.array .byte), .byte, .int, .boolean]
  staticTypes := #[.long, .boolean, (.array (.object "java/io/ObjectStreamField")), .char, (.object "java/util/Comparator"), .byte, .byte]
  resolved := Array.replicate 1451 none
  statics := some 0 }

def pool8 : Array CpInfo := pool [(2, .class_ 4), (1, u "java/lang/Object"), (2, .class_ 8), (0, u "com/example/gatewarden/gatewarden/formats/PhysicalLines"), (2, u "buffer"), (0, u "[C"), (14, u "utf8"), (0, u "Ljava/nio/charset/CharsetDecoder;"), (2, u "in"), (0, u "Ljava/io/Reader;"), (2, u "characters"), (0, u "Lcom/example/gatewarden/gatewarden/formats/PhysicalLines$Characters;"), (2, u "maxLength"), (0, u "I"), (2, u "refusal"), (0, u "Lcom/example/gatewarden/gatewarden/formats/PhysicalLines$Refusal;"), (7, u "line"), (0, u "Ljava/lang/StringBuilder;"), (3, u "()I"), (2, u "number"), (9, .class_ 72), (1, u "com/example/gatewarden/gatewarden/formats/PhysicalLines$Characters"), (4, .nameAndType 78 57), (0, u "length"), (9, .class_ 90), (1, u "com/example/gatewarden/gatewarden/formats/PhysicalLines$Refusal"), (15, u "position"), (2, u "limit"), (9, .class_ 121), (1, u "java/lang/String"), (46, .methodref 119 77), (0, .methodref 119 170), (0, .nameAndType 171 172), (0, u "charAt"), (0, u "(I)C"), (19, u "END_OF_TEXT"), (2, u "LAST_ASCII"), (1, u "BUFFER_SIZE"), (16, u "isBlank"), (0, u "(Ljava/lang/String;)Z")] 29

def k8c0 : Code := { maxStack := 2, maxLocals := 3, code := prog_66_method_6_code, exceptionTable := #[], attributes := #[] }
def k8m0 : Method := { name := "isBlank", desc := "(Ljava/lang/String;)Z", sig := { parameters := [(.object "java/lang/String")], returnType := some .boolean }, accessFlags := 8, code := some k8c0 }
/-- com/example/gatewarden/gatewarden/formats/PhysicalLines -/
def k8 : Class := { plain "com/example/gatewarden/gatewarden/formats/PhysicalLines" (some 0) with
  accessFlags := 48
  interfaces := #[]
  cf := some (fileOf pool8 7 #[.nestMembers #[70, 88]] #[{ accessFlags := 8, nameIndex := 214, descriptorIndex := 215, attributes := #[] }] 48 2 #[] #[{ accessFlags := 26, nameIndex := 192, descriptorIndex := 40, attributes := #[] }, { accessFlags := 26, nameIndex := 195, descriptorIndex := 40, attributes := #[] }, { accessFlags := 26, nameIndex := 197, descriptorIndex := 40, attributes := #[] }, { accessFlags := 18, nameIndex := 31, descriptorIndex := 32, attributes := #[] }, { accessFlags := 18, nameIndex := 35, descriptorIndex := 36, attributes := #[] }, { accessFlags := 18, nameIndex := 39, descriptorIndex := 40, attributes := #[] }, { accessFlags := 18, nameIndex := 43, descriptorIndex := 44, attributes := #[] }, { accessFlags := 18, nameIndex := 11, descriptorIndex := 12, attributes := #[] }, { accessFlags := 2, nameIndex := 106, descriptorIndex := 40, attributes := #[] }, { accessFlags := 2, nameIndex := 109, descriptorIndex := 40, attributes := #[] }, { accessFlags := 18, nameIndex := 52, descriptorIndex := 53, attributes := #[] }, { accessFlags := 18, nameIndex := 27, descriptorIndex := 28, attributes := #[] }, { accessFlags := 2, nameIndex := 60, descriptorIndex := 40, attributes := #[] }])
  fields := #[{ name := "END_OF_TEXT", type := .int, accessFlags := 26, slot := 0, constantValue := 0 }, { name := "LAST_ASCII", type := .int, accessFlags := 26, slot := 1, constantValue := 0 }, { name := "BUFFER_SIZE", type := .int, accessFlags := 26, slot := 2, constantValue := 0 }, { name := "in", type := (.object "java/io/Reader"), accessFlags := 18, slot := 0, constantValue := 0 }, { name := "characters", type := (.object "com/example/gatewarden/gatewarden/formats/PhysicalLines$Characters"), accessFlags := 18, slot := 1, constantValue := 0 }, { name := "maxLength", type := .int, accessFlags := 18, slot := 2, constantValue := 0 }, { name := "refusal", type := (.object "com/example/gatewarden/gatewarden/formats/PhysicalLines$Refusal"), accessFlags := 18, slot := 3, constantValue := 0 }, { name := "buffer", type := (.array .char), accessFlags := 18, slot := 4, constantValue := 0 }, { name := "position", type := .int, accessFlags := 2, slot := 5, constantValue := 0 }, { name := "limit", type := .int, accessFlags := 2, slot := 6, constantValue := 0 }, { name := "line", type := (.object "java/lang/StringBuilder"), accessFlags := 18, slot := 7, constantValue := 0 }, { name := "utf8", type := (.object "java/nio/charset/CharsetDecoder"), accessFlags := 18, slot := 8, constantValue := 0 }, { name := "number", type := .int, accessFlags := 2, slot := 9, constantValue := 0 }]
  methods := #[k8m0]
  instanceTypes := #[(.object "java/io/Reader"), (.object "com/example/gatewarden/gatewarden/formats/PhysicalLines$Characters"), .int, (.object "com/example/gatewarden/gatewarden/formats/PhysicalLines$Refusal"), (.array .char), .int, .int, (.object "java/lang/StringBuilder"), (.object "java/nio/charset/CharsetDecoder"), .int]
  staticTypes := #[.int, .int, .int]
  resolved := Array.replicate 245 none
  statics := none }

def pool9 : Array CpInfo := pool [(3, .class_ 4), (0, u "java/lang/String"), (1, .class_ 8), (1, u "java/lang/Object"), (0, u "<init>"), (0, u "()V"), (0, .methodref 12 13), (0, .class_ 14), (0, .nameAndType 15 16), (0, u "java/lang/StringUTF16"), (0, u "newBytesLength"), (0, u "(I)I"), (3, .integer 1073741823), (23, .fieldref 12 45), (0, .nameAndType 46 47), (0, u "$assertionsDisabled"), (0, u "Z"), (0, .methodref 12 49), (0, .nameAndType 50 51), (0, u "length"), (0, u "([B)I"), (7, .fieldref 12 60), (0, .nameAndType 61 62), (0, u "HI_BYTE_SHIFT"), (0, u "I"), (0, .fieldref 12 64), (0, .nameAndType 65 62), (0, u "LO_BYTE_SHIFT"), (1, .methodref 12 68), (0, .nameAndType 69 70), (0, u "checkIndex"), (0, u "(I[B)V"), (0, .methodref 12 72), (0, .nameAndType 73 74), (0, u "getChar"), (0, u "([BI)C"), (32, .methodref 12 108), (0, .nameAndType 109 110), (0, u "newBytesFor"), (0, u "(I)[B"), (0, .methodref 12 112), (0, .nameAndType 113 114), (0, u "putChar"), (0, u "([BII)V"), (0, .methodref 12 116), (0, .nameAndType 117 118), (0, u "compress"), (0, u "([CI[BII)I"), (0, .methodref 12 120), (0, .nameAndType 121 122), (0, u "toBytes"), (0, u "([CII)[B"), (138, u "coderFromArrayLen"), (0, u "([BI)B"), (106, .class_ 371), (1, u "java/lang/StringUTF16$LinesSpliterator"), (20, u "charAt"), (21, .methodref 3 415), (0, .nameAndType 69 416), (0, u "(II)V"), (13, u "MAX_LENGTH"), (196, .class_ 628), (0, u "java/lang/StringUTF16$CodePointsSpliterator"), (0, .class_ 630), (0, u "java/lang/StringUTF16$CharsSpliterator")] 4

def k9m0 : Method := { name := "<init>", desc := "()V", sig := { parameters := [], returnType := none }, accessFlags := 0, code := none }
def k9c1 : Code := { maxStack := 1, maxLocals := 1, code := jdk_52_method_2_code, exceptionTable := #[], attributes := #[] }
def k9m1 : Method := { name := "newBytesFor", desc := "(I)[B", sig := { parameters := [.int], returnType := some (.array .byte) }, accessFlags := 9, code := some k9c1 }
def k9c2 : Code := { maxStack := 4, maxLocals := 1, code := jdk_52_method_3_code, exceptionTable := #[], attributes := #[] }
def k9m2 : Method := { name := "newBytesLength", desc := "(I)I", sig := { parameters := [.int], returnType := some .int }, accessFlags := 9, code := some k9c2 }
def k9c3 : Code := { maxStack := 4, maxLocals := 3, code := jdk_52_method_4_code, exceptionTable := #[], attributes := #[] }
def k9m3 : Method := { name := "putChar", desc := "([BII)V", sig := { parameters := [(.array .byte), .int, .int], returnType := none }, accessFlags := 8, code := some k9c3 }
def k9c4 : Code := { maxStack := 3, maxLocals := 2, code := jdk_52_method_5_code, exceptionTable := #[], attributes := #[] }
def k9m4 : Method := { name := "getChar", desc := "([BI)C", sig := { parameters := [(.array .byte), .int], returnType := some .char }, accessFlags := 8, code := some k9c4 }
def k9c5 : Code := { maxStack := 2, maxLocals := 1, code := jdk_52_method_6_code, exceptionTable := #[], attributes := #[] }
def k9m5 : Method := { name := "length", desc := "([B)I", sig := { parameters := [(.array .byte)], returnType := some .int }, accessFlags := 9, code := some k9c5 }
def k9c6 : Code := { maxStack := 4, maxLocals := 5, code := jdk_52_method_14_code, exceptionTable := #[], attributes := #[] }
def k9m6 : Method := { name := "toBytes", desc := "([CII)[B", sig := { parameters := [(.array .char), .int, .int], returnType := some (.array .byte) }, accessFlags := 9, code := some k9c6 }
def k9c7 : Code := { maxStack := 2, maxLocals := 2, code := jdk_52_method_15_code, exceptionTable := #[], attributes := #[] }
def k9m7 : Method := { name := "coderFromArrayLen", desc := "([BI)B", sig := { parameters := [(.array .byte), .int], returnType := some .byte }, accessFlags := 8, code := some k9c7 }
def k9c8 : Code := { maxStack := 5, maxLocals := 6, code := jdk_52_method_16_code, exceptionTable := #[], attributes := #[] }
def k9m8 : Method := { name := "compress", desc := "([CII)[B", sig := { parameters := [(.array .char), .int, .int], returnType := some (.array .byte) }, accessFlags := 9, code := some k9c8 }
def k9c9 : Code := { maxStack := 3, maxLocals := 7, code := jdk_52_method_21_code, exceptionTable := #[], attributes := #[] }
def k9m9 : Method := { name := "compress", desc := "([CI[BII)I", sig := { parameters := [(.array .char), .int, (.array .byte), .int, .int], returnType := some .int }, accessFlags := 9, code := some k9c9 }
def k9c10 : Code := { maxStack := 2, maxLocals := 2, code := jdk_52_method_83_code, exceptionTable := #[], attributes := #[] }
def k9m10 : Method := { name := "charAt", desc := "([BI)C", sig := { parameters := [(.array .byte), .int], returnType := some .char }, accessFlags := 9, code := some k9c10 }
def k9c11 : Code := { maxStack := 2, maxLocals := 2, code := jdk_52_method_91_code, exceptionTable := #[], attributes := #[] }
def k9m11 : Method := { name := "checkIndex", desc := "(I[B)V", sig := { parameters := [.int, (.array .byte)], returnType := none }, accessFlags := 9, code := some k9c11 }
/-- java/lang/StringUTF16 -/
def k9 : Class := { plain "java/lang/StringUTF16" (some 0) with
  accessFlags := 48
  interfaces := #[]
  cf := some (fileOf pool9 12 #[.nestMembers #[627, 629, 369]] #[{ accessFlags := 0, nameIndex := 9, descriptorIndex := 10, attributes := #[] }, { accessFlags := 9, nameIndex := 109, descriptorIndex := 110, attributes := #[] }, { accessFlags := 9, nameIndex := 15, descriptorIndex := 16, attributes := #[] }, { accessFlags := 8, nameIndex := 113, descriptorIndex := 114, attributes := #[] }, { accessFlags := 8, nameIndex := 73, descriptorIndex := 74, attributes := #[] }, { accessFlags := 9, nameIndex := 50, descriptorIndex := 51, attributes := #[] }, { accessFlags := 9, nameIndex := 121, descriptorIndex := 122, attributes := #[] }, { accessFlags := 8, nameIndex := 261, descriptorIndex := 262, attributes := #[] }, { accessFlags := 9, nameIndex := 117, descriptorIndex := 122, attributes := #[] }, { accessFlags := 9, nameIndex := 117, descriptorIndex := 118, attributes := #[] }, { accessFlags := 9, nameIndex := 392, descriptorIndex := 74, attributes := #[] }, { accessFlags := 9, nameIndex := 69, descriptorIndex := 70, attributes := #[] }] 48 6 #[] #[{ accessFlags := 26, nameIndex := 61, descriptorIndex := 62, attributes := #[] }, { accessFlags := 26, nameIndex := 65, descriptorIndex := 62, attributes := #[] }, { accessFlags := 24, nameIndex := 430, descriptorIndex := 62, attributes := #[] }, { accessFlags := 4120, nameIndex := 46, descriptorIndex := 47, attributes := #[] }])
  fields := #[{ name := "HI_BYTE_SHIFT", type := .int, accessFlags := 26, slot := 0, constantValue := 0 }, { name := "LO_BYTE_SHIFT", type := .int, accessFlags := 26, slot := 1, constantValue := 0 }, { name := "MAX_LENGTH", type := .int, accessFlags := 24, slot := 2, constantValue := 0 }, { name := "$assertionsDisabled", type := .boolean, accessFlags := 4120, slot := 3, constantValue := 0 }]
  methods := #[k9m0, k9m1, k9m2, k9m3, k9m4, k9m5, k9m6, k9m7, k9m8, k9m9, k9m10, k9m11]
  instanceTypes := #[]
  staticTypes := #[.int, .int, .int, .boolean]
  resolved := Array.replicate 635 none
  statics := some 1 }

def pool10 : Array CpInfo := pool [(1, .class_ 2), (0, u "java/lang/String"), (1, .class_ 6), (1, u "java/lang/Object"), (0, u "<init>"), (0, u "()V"), (0, .methodref 1 10), (0, .nameAndType 11 12), (0, u "checkIndex"), (0, u "(II)V"), (1, .class_ 16), (1, u "java/lang/StringLatin1"), (36, u "([BI)C"), (67, u "$assertionsDisabled"), (0, u "Z"), (98, .class_ 223), (1, u "java/lang/StringLatin1$LinesSpliterator"), (28, u "charAt"), (137, .class_ 391), (0, u "java/lang/StringLatin1$CharsSpliterator")] 3

def k10m0 : Method := { name := "<init>", desc := "()V", sig := { parameters := [], returnType := none }, accessFlags := 0, code := none }
def k10c1 : Code := { maxStack := 2, maxLocals := 2, code := jdk_43_method_2_code, exceptionTable := #[], attributes := #[] }
def k10m1 : Method := { name := "charAt", desc := "([BI)C", sig := { parameters := [(.array .byte), .int], returnType := some .char }, accessFlags := 9, code := some k10c1 }
/-- java/lang/StringLatin1 -/
def k10 : Class := { plain "java/lang/StringLatin1" (some 0) with
  accessFlags := 48
  interfaces := #[]
  cf := some (fileOf pool10 14 #[.nestMembers #[390, 221]] #[{ accessFlags := 0, nameIndex := 7, descriptorIndex := 8, attributes := #[] }, { accessFlags := 9, nameIndex := 252, descriptorIndex := 53, attributes := #[] }] 48 4 #[] #[{ accessFlags := 4120, nameIndex := 121, descriptorIndex := 122, attributes := #[] }])
  fields := #[{ name := "$assertionsDisabled", type := .boolean, accessFlags := 4120, slot := 0, constantValue := 0 }]
  methods := #[k10m0, k10m1]
  instanceTypes := #[]
  staticTypes := #[.boolean]
  resolved := Array.replicate 395 none
  statics := none }

def pool11 : Array CpInfo := pool [(2, .class_ 4), (1, u "java/lang/Object"), (0, u "<init>"), (0, u "()V"), (17, .class_ 26), (1, u "jdk/internal/util/Preconditions"), (6, u "checkIndex"), (21, .class_ 56), (0, u "jdk/internal/util/Preconditions$4"), (57, .class_ 115), (0, u "jdk/internal/util/Preconditions$1"), (7, u "SIOOBE_FORMATTER"), (0, u "Ljava/util/function/BiFunction;"), (0, .class_ 126), (0, u "jdk/internal/util/Preconditions$2"), (3, u "AIOOBE_FORMATTER"), (0, .class_ 132), (0, u "jdk/internal/util/Preconditions$3"), (3, u "IOOBE_FORMATTER"), (41, u "(IILjava/util/function/BiFunction;)I")] 15

def k11m0 : Method := { name := "<init>", desc := "()V", sig := { parameters := [], returnType := none }, accessFlags := 1, code := none }
def k11c1 : Code := { maxStack := 3, maxLocals := 3, code := jdk_41_method_11_code, exceptionTable := #[], attributes := #[] }
def k11m1 : Method := { name := "checkIndex", desc := "(IILjava/util/function/BiFunction;)I", sig := { parameters := [.int, .int, (.object "java/util/function/BiFunction")], returnType := some .int }, accessFlags := 9, code := some k11c1 }
/-- jdk/internal/util/Preconditions -/
def k11 : Class := { plain "jdk/internal/util/Preconditions" (some 0) with
  accessFlags := 33
  interfaces := #[]
  cf := some (fileOf pool11 24 #[.nestMembers #[55, 131, 125, 114]] #[{ accessFlags := 1, nameIndex := 5, descriptorIndex := 6, attributes := #[] }, { accessFlags := 9, nameIndex := 33, descriptorIndex := 178, attributes := #[] }] 33 2 #[] #[{ accessFlags := 25, nameIndex := 123, descriptorIndex := 124, attributes := #[] }, { accessFlags := 25, nameIndex := 130, descriptorIndex := 124, attributes := #[] }, { accessFlags := 25, nameIndex := 136, descriptorIndex := 124, attributes := #[] }])
  fields := #[{ name := "SIOOBE_FORMATTER", type := (.object "java/util/function/BiFunction"), accessFlags := 25, slot := 0, constantValue := 0 }, { name := "AIOOBE_FORMATTER", type := (.object "java/util/function/BiFunction"), accessFlags := 25, slot := 1, constantValue := 0 }, { name := "IOOBE_FORMATTER", type := (.object "java/util/function/BiFunction"), accessFlags := 25, slot := 2, constantValue := 0 }]
  methods := #[k11m0, k11m1]
  instanceTypes := #[]
  staticTypes := #[(.object "java/util/function/BiFunction"), (.object "java/util/function/BiFunction"), (.object "java/util/function/BiFunction")]
  resolved := Array.replicate 194 none
  statics := some 2 }

def pool12 : Array CpInfo := pool [(9, u "<init>"), (6, .class_ 18), (1, u "java/lang/Object"), (0, u "()V"), (1, .class_ 23), (1, u "jdk/internal/util/ArraysSupport"), (0, u "LOG2_ARRAY_LONG_INDEX_SCALE"), (0, u "I"), (2, u "U"), (0, u "Ljdk/internal/misc/Unsafe;"), (8, u "BIG_ENDIAN"), (0, u "Z"), (8, u "LOG2_BYTE_BIT_SIZE"), (4, u "LOG2_ARRAY_INT_INDEX_SCALE"), (54, u "JLA"), (0, u "Ljdk/internal/access/JavaLangAccess;"), (11, u "LOG2_ARRAY_BOOLEAN_INDEX_SCALE"), (9, u "LOG2_ARRAY_BYTE_INDEX_SCALE"), (5, u "LOG2_ARRAY_CHAR_INDEX_SCALE"), (5, u "LOG2_ARRAY_SHORT_INDEX_SCALE"), (18, u "LOG2_ARRAY_FLOAT_INDEX_SCALE"), (24, u "LOG2_ARRAY_DOUBLE_INDEX_SCALE"), (89, u "T_BOOLEAN"), (2, u "T_CHAR"), (1, u "T_FLOAT"), (1, u "T_DOUBLE"), (1, u "T_BYTE"), (1, u "T_SHORT"), (1, u "T_INT"), (1, u "T_LONG"), (1, u "SOFT_MAX_ARRAY_LENGTH")] 83

def k12m0 : Method := { name := "<init>", desc := "()V", sig := { parameters := [], returnType := none }, accessFlags := 2, code := none }
/-- jdk/internal/util/ArraysSupport -/
def k12 : Class := { plain "jdk/internal/util/ArraysSupport" (some 0) with
  accessFlags := 33
  interfaces := #[]
  cf := some (fileOf pool12 21 #[] #[{ accessFlags := 2, nameIndex := 9, descriptorIndex := 19, attributes := #[] }] 33 16 #[] #[{ accessFlags := 24, nameIndex := 28, descriptorIndex := 29, attributes := #[] }, { accessFlags := 26, nameIndex := 38, descriptorIndex := 39, attributes := #[] }, { accessFlags := 25, nameIndex := 121, descriptorIndex := 25, attributes := #[] }, { accessFlags := 25, nameIndex := 131, descriptorIndex := 25, attributes := #[] }, { accessFlags := 25, nameIndex := 137, descriptorIndex := 25, attributes := #[] }, { accessFlags := 25, nameIndex := 143, descriptorIndex := 25, attributes := #[] }, { accessFlags := 25, nameIndex := 53, descriptorIndex := 25, attributes := #[] }, { accessFlags := 25, nameIndex := 24, descriptorIndex := 25, attributes := #[] }, { accessFlags := 25, nameIndex := 162, descriptorIndex := 25, attributes := #[] }, { accessFlags := 25, nameIndex := 187, descriptorIndex := 25, attributes := #[] }, { accessFlags := 26, nameIndex := 48, descriptorIndex := 25, attributes := #[] }, { accessFlags := 25, nameIndex := 277, descriptorIndex := 25, attributes := #[] }, { accessFlags := 25, nameIndex := 280, descriptorIndex := 25, attributes := #[] }, { accessFlags := 25, nameIndex := 282, descriptorIndex := 25, attributes := #[] }, { accessFlags := 25, nameIndex := 284, descriptorIndex := 25, attributes := #[] }, { accessFlags := 25, nameIndex := 286, descriptorIndex := 25, attributes := #[] }, { accessFlags := 25, nameIndex := 288, descriptorIndex := 25, attributes := #[] }, { accessFlags := 25, nameIndex := 290, descriptorIndex := 25, attributes := #[] }, { accessFlags := 25, nameIndex := 292, descriptorIndex := 25, attributes := #[] }, { accessFlags := 26, nameIndex := 108, descriptorIndex := 109, attributes := #[] }, { accessFlags := 25, nameIndex := 294, descriptorIndex := 25, attributes := #[] }])
  fields := #[{ name := "U", type := (.object "jdk/internal/misc/Unsafe"), accessFlags := 24, slot := 0, constantValue := 0 }, { name := "BIG_ENDIAN", type := .boolean, accessFlags := 26, slot := 1, constantValue := 0 }, { name := "LOG2_ARRAY_BOOLEAN_INDEX_SCALE", type := .int, accessFlags := 25, slot := 2, constantValue := 0 }, { name := "LOG2_ARRAY_BYTE_INDEX_SCALE", type := .int, accessFlags := 25, slot := 3, constantValue := 0 }, { name := "LOG2_ARRAY_CHAR_INDEX_SCALE", type := .int, accessFlags := 25, slot := 4, constantValue := 0 }, { name := "LOG2_ARRAY_SHORT_INDEX_SCALE", type := .int, accessFlags := 25, slot := 5, constantValue := 0 }, { name := "LOG2_ARRAY_INT_INDEX_SCALE", type := .int, accessFlags := 25, slot := 6, constantValue := 0 }, { name := "LOG2_ARRAY_LONG_INDEX_SCALE", type := .int, accessFlags := 25, slot := 7, constantValue := 0 }, { name := "LOG2_ARRAY_FLOAT_INDEX_SCALE", type := .int, accessFlags := 25, slot := 8, constantValue := 0 }, { name := "LOG2_ARRAY_DOUBLE_INDEX_SCALE", type := .int, accessFlags := 25, slot := 9, constantValue := 0 }, { name := "LOG2_BYTE_BIT_SIZE", type := .int, accessFlags := 26, slot := 10, constantValue := 0 }, { name := "T_BOOLEAN", type := .int, accessFlags := 25, slot := 11, constantValue := 0 }, { name := "T_CHAR", type := .int, accessFlags := 25, slot := 12, constantValue := 0 }, { name := "T_FLOAT", type := .int, accessFlags := 25, slot := 13, constantValue := 0 }, { name := "T_DOUBLE", type := .int, accessFlags := 25, slot := 14, constantValue := 0 }, { name := "T_BYTE", type := .int, accessFlags := 25, slot := 15, constantValue := 0 }, { name := "T_SHORT", type := .int, accessFlags := 25, slot := 16, constantValue := 0 }, { name := "T_INT", type := .int, accessFlags := 25, slot := 17, constantValue := 0 }, { name := "T_LONG", type := .int, accessFlags := 25, slot := 18, constantValue := 0 }, { name := "JLA", type := (.object "jdk/internal/access/JavaLangAccess"), accessFlags := 26, slot := 19, constantValue := 0 }, { name := "SOFT_MAX_ARRAY_LENGTH", type := .int, accessFlags := 25, slot := 20, constantValue := 0 }]
  methods := #[k12m0]
  instanceTypes := #[]
  staticTypes := #[(.object "jdk/internal/misc/Unsafe"), .boolean, .int, .int, .int, .int, .int, .int, .int, .int, .int, .int, .int, .int, .int, .int, .int, .int, .int, (.object "jdk/internal/access/JavaLangAccess"), .int]
  resolved := Array.replicate 378 none
  statics := none }

def pool13 : Array CpInfo := pool [(1, u "java/lang/Cloneable"), (0, .class_ 1), (0, u "java/lang/Object"), (0, .class_ 3)] 3

/-- java/lang/Cloneable -/
def k13 : Class := { plain "java/lang/Cloneable" (some 0) with
  accessFlags := 1537
  interfaces := #[]
  cf := some (fileOf pool13 2 #[] #[] 1537 4 #[] #[])
  fields := #[]
  methods := #[]
  instanceTypes := #[]
  staticTypes := #[]
  resolved := Array.replicate 8 none
  statics := none }

/-- the primitive byte -/
def k14 : Class := { plain "byte" none with kind := .primitive 'B', accessFlags := 0x411 }
/-- [B -/
def k15 : Class := { plain "[B" (some 0) with kind := .array 14 .byte, interfaces := #[13, 2], accessFlags := 1041 }

/-- the primitive char -/
def k16 : Class := { plain "char" none with kind := .primitive 'C', accessFlags := 0x411 }
/-- [C -/
def k17 : Class := { plain "[C" (some 0) with kind := .array 16 .char, interfaces := #[13, 2], accessFlags := 1041 }

/-- the primitive int -/
def k18 : Class := { plain "int" none with kind := .primitive 'I', accessFlags := 0x411 }
/-- [I -/
def k19 : Class := { plain "[I" (some 0) with kind := .array 18 .int, interfaces := #[13, 2], accessFlags := 1041 }

def heap : Heap := #[{ cls := 7, slots := #[.long 0, .int 1, .null, .int 0, .null, .int 0, .int 0], vm := .statics 7 },
  { cls := 9, slots := #[.int 0, .int 8, .int 0, .int 1], vm := .statics 9 },
  { cls := 11, slots := #[.null, .null, .null], vm := .statics 11 }]
def classes : Array Class := #[k0, k1, k2, k3, k4, k5, k6, k7, k8, k9, k10, k11, k12, k13, k14, k15, k16, k17, k18, k19]
def interned : List (Array UInt16 × Addr) := []
def slotsUsed : Nat := 14
def theMethod : MethodId := ⟨1, 1⟩
def args0 : Array Value := #[.int 5, .int 1, .int 2, .int 3, .int 4]
def aboutOver (below : List Frame) : State where
  vm := { classes := classes, interned := interned.toArray }
  heap := heap
  slotsUsed := slotsUsed
  threads := #[{ frames := .invoking theMethod args0 :: below }]
def below0 : List Frame := [.native { method := ⟨0, 0⟩, args := #[] }]
def about1 : State := aboutOver below0
def p0 : Program := .bare "" "" ""
def e0 : Env := launch0.env 0 0 0
theorem w_frames : about1.frames = Frame.invoking theMethod args0 :: below0 := rfl
set_option maxRecDepth 65536 in
theorem w_args : argsFit about1.vm theMethod args0 = true := by decide +kernel
set_option maxRecDepth 65536 in
theorem w_heap : heapFits about1 = true := by decide +kernel
set_option maxRecDepth 65536 in
theorem w_runnable : about1.curStatus? = some .runnable := by decide +kernel
set_option maxRecDepth 65536 in
theorem w_alone : about1.alone = true := by decide +kernel
set_option maxRecDepth 65536 in
theorem w_named : about1.methodNamed? x = some theMethod := by decide +kernel
set_option maxRecDepth 65536 in
theorem w_hears : about1.hears theMethod below0 = true := by decide +kernel
set_option maxRecDepth 65536 in
theorem w_ripe : about1.ripe theMethod args0 below0 = true := by decide +kernel
theorem w_running : about1.status = .running := rfl
set_option maxRecDepth 65536 in
theorem w_room : about1.hasRoom e0.platform room_1 = true :=
  launch0.hasRoom_least _ room_1 (by decide +kernel) (by decide +kernel) (by decide +kernel) (by decide +kernel) (by decide +kernel) (by decide +kernel)
theorem allAtoms_all (ts : List Jvm.Cond) (a : Array Jvm.Value) (st : Jvm.State) : (allAtoms ts).before a st = ts.all (fun c => c.before a st) := by
  induction ts with
  | nil => rfl
  | cons c t ih =>
    show (Jvm.Cond.and c (allAtoms t)).before a st = _
    rw [Jvm.Cond.before_and, ih, List.all_cons]
def words1 : List Jvm.Cond := Jvm.Cond.code x code maxLocals ret :: tables_1
/-- a 'code' word, met by the world's own term for the bytes: nothing is compared byte by byte -/
theorem code_word {y : MethodName} {bytes : ByteArray} {mx : Nat} {rt : Option FieldType} {a : Array Value} {s : State} {m : MethodId} {meth : Method} {c : Code} (h1 : s.methodNamed? y = some m) (h2 : s.vm.method? m = some meth) (h3 : meth.code = some c) (h4 : c.code = bytes)
    (h5 : (c.maxLocals == mx && c.exceptionTable.isEmpty && decide (c.maxStack ≤ mostOperands) && decide (meth.sig.returnType = rt) && !meth.locks && decide (parseMethodDescriptor y.desc = some meth.sig)) = true) : (Jvm.Cond.code y bytes mx rt).before a s = true := by
  simp only [Bool.and_eq_true, beq_iff_eq, Bool.not_eq_true', decide_eq_true_eq] at h5
  obtain ⟨⟨⟨⟨⟨g1, g2⟩, g3⟩, g4⟩, g5⟩, g6⟩ := h5
  simp [Cond.before, Cond.holds, Cond.value, h1, h2, h3, h4, g1, g2, g3, g4, g5, g6]
def isCode : Jvm.Cond → Bool
  | .code _ _ _ _ => true
  | _ => false
theorem all_split {L : List Jvm.Cond} {P : Jvm.Cond → Bool} (h1 : L.all (fun c => isCode c || P c) = true) (h2 : ∀ c ∈ L.filter isCode, P c = true) : L.all P = true := by
  refine List.all_eq_true.mpr fun c hc => ?_
  have h := List.all_eq_true.mp h1 c hc
  rcases Bool.eq_false_or_eq_true (isCode c) with hi | hi
  · exact h2 c (List.mem_filter.mpr ⟨hc, hi⟩)
  · simpa [hi] using h
set_option maxRecDepth 65536 in
theorem w_c0 : (Jvm.Cond.code x code maxLocals ret).before args0 about1 = true := code_word (m := ⟨1, 1⟩) (meth := k1m1) (c := k1c1) (by decide +kernel) rfl rfl rfl (by decide +kernel)
set_option maxRecDepth 65536 in
theorem w_c1 : (Jvm.Cond.code ({ cls := "com/example/gatewarden/gatewarden/formats/PhysicalLinesIsBlankPinLaw", name := "draw", desc := "(I)C" } : Jvm.MethodName) method_3_code (2 : Nat) (Option.some Jvm.ClassFile.FieldType.char)).before args0 about1 = true := code_word (m := ⟨1, 2⟩) (meth := k1m2) (c := k1c2) (by decide +kernel) rfl rfl rfl (by decide +kernel)
set_option maxRecDepth 65536 in
theorem w_c2 : (Jvm.Cond.code ({ cls := "java/lang/String", name := "<init>", desc := "([C)V" } : Jvm.MethodName) jdk_42_method_3_code (2 : Nat) (Option.none : Option Jvm.ClassFile.FieldType)).before args0 about1 = true := code_word (m := ⟨7, 1⟩) (meth := k7m1) (c := k7c1) (by decide +kernel) rfl rfl rfl (by decide +kernel)
set_option maxRecDepth 65536 in
theorem w_c3 : (Jvm.Cond.code ({ cls := "java/lang/String", name := "<init>", desc := "([CIILjava/lang/Void;)V" } : Jvm.MethodName) jdk_42_method_149_code (6 : Nat) (Option.none : Option Jvm.ClassFile.FieldType)).before args0 about1 = true := code_word (m := ⟨7, 4⟩) (meth := k7m4) (c := k7c4) (by decide +kernel) rfl rfl rfl (by decide +kernel)
set_option maxRecDepth 65536 in
theorem w_c4 : (Jvm.Cond.code ({ cls := "java/lang/Object", name := "<init>", desc := "()V" } : Jvm.MethodName) object_method_1_code (1 : Nat) (Option.none : Option Jvm.ClassFile.FieldType)).before args0 about1 = true := code_word (m := ⟨0, 0⟩) (meth := k0m0) (c := k0c0) (by decide +kernel) rfl rfl rfl (by decide +kernel)
set_option maxRecDepth 65536 in
theorem w_c5 : (Jvm.Cond.code ({ cls := "com/example/gatewarden/gatewarden/formats/PhysicalLines", name := "isBlank", desc := "(Ljava/lang/String;)Z" } : Jvm.MethodName) prog_66_method_6_code (3 : Nat) (Option.some Jvm.ClassFile.FieldType.boolean)).before args0 about1 = true := code_word (m := ⟨8, 0⟩) (meth := k8m0) (c := k8c0) (by decide +kernel) rfl rfl rfl (by decide +kernel)
set_option maxRecDepth 65536 in
theorem w_c6 : (Jvm.Cond.code ({ cls := "java/lang/String", name := "length", desc := "()I" } : Jvm.MethodName) jdk_42_method_54_code (1 : Nat) (Option.some Jvm.ClassFile.FieldType.int)).before args0 about1 = true := code_word (m := ⟨7, 2⟩) (meth := k7m2) (c := k7c2) (by decide +kernel) rfl rfl rfl (by decide +kernel)
set_option maxRecDepth 65536 in
theorem w_c7 : (Jvm.Cond.code ({ cls := "java/lang/String", name := "coder", desc := "()B" } : Jvm.MethodName) jdk_42_method_152_code (1 : Nat) (Option.some Jvm.ClassFile.FieldType.byte)).before args0 about1 = true := code_word (m := ⟨7, 5⟩) (meth := k7m5) (c := k7c5) (by decide +kernel) rfl rfl rfl (by decide +kernel)
set_option maxRecDepth 65536 in
theorem w_c8 : (Jvm.Cond.code ({ cls := "com/example/gatewarden/gatewarden/formats/PhysicalLinesIsBlankPinLaw", name := "sep", desc := "(C)Z" } : Jvm.MethodName) method_4_code (1 : Nat) (Option.some Jvm.ClassFile.FieldType.boolean)).before args0 about1 = true := code_word (m := ⟨1, 3⟩) (meth := k1m3) (c := k1c3) (by decide +kernel) rfl rfl rfl (by decide +kernel)
set_option maxRecDepth 65536 in
theorem w_c9 : (Jvm.Cond.code ({ cls := "java/lang/StringUTF16", name := "compress", desc := "([CII)[B" } : Jvm.MethodName) jdk_52_method_16_code (6 : Nat) (Option.some (Jvm.ClassFile.FieldType.array Jvm.ClassFile.FieldType.byte))).before args0 about1 = true := code_word (m := ⟨9, 8⟩) (meth := k9m8) (c := k9c8) (by decide +kernel) rfl rfl rfl (by decide +kernel)
set_option maxRecDepth 65536 in
theorem w_c10 : (Jvm.Cond.code ({ cls := "java/lang/StringUTF16", name := "compress", desc := "([CI[BII)I" } : Jvm.MethodName) jdk_52_method_21_code (7 : Nat) (Option.some Jvm.ClassFile.FieldType.int)).before args0 about1 = true := code_word (m := ⟨9, 9⟩) (meth := k9m9) (c := k9c9) (by decide +kernel) rfl rfl rfl (by decide +kernel)
set_option maxRecDepth 65536 in
theorem w_c11 : (Jvm.Cond.code ({ cls := "java/lang/StringUTF16", name := "coderFromArrayLen", desc := "([BI)B" } : Jvm.MethodName) jdk_52_method_15_code (2 : Nat) (Option.some Jvm.ClassFile.FieldType.byte)).before args0 about1 = true := code_word (m := ⟨9, 7⟩) (meth := k9m7) (c := k9c7) (by decide +kernel) rfl rfl rfl (by decide +kernel)
set_option maxRecDepth 65536 in
theorem w_c12 : (Jvm.Cond.code ({ cls := "java/lang/String", name := "charAt", desc := "(I)C" } : Jvm.MethodName) jdk_42_method_56_code (2 : Nat) (Option.some Jvm.ClassFile.FieldType.char)).before args0 about1 = true := code_word (m := ⟨7, 3⟩) (meth := k7m3) (c := k7c3) (by decide +kernel) rfl rfl rfl (by decide +kernel)
set_option maxRecDepth 65536 in
theorem w_c13 : (Jvm.Cond.code ({ cls := "java/lang/String", name := "isLatin1", desc := "()Z" } : Jvm.MethodName) jdk_42_method_154_code (1 : Nat) (Option.some Jvm.ClassFile.FieldType.boolean)).before args0 about1 = true := code_word (m := ⟨7, 6⟩) (meth := k7m6) (c := k7c6) (by decide +kernel) rfl rfl rfl (by decide +kernel)
set_option maxRecDepth 65536 in
theorem w_c14 : (Jvm.Cond.code ({ cls := "java/lang/StringLatin1", name := "charAt", desc := "([BI)C" } : Jvm.MethodName) jdk_43_method_2_code (2 : Nat) (Option.some Jvm.ClassFile.FieldType.char)).before args0 about1 = true := code_word (m := ⟨10, 1⟩) (meth := k10m1) (c := k10c1) (by decide +kernel) rfl rfl rfl (by decide +kernel)
set_option maxRecDepth 65536 in
theorem w_c15 : (Jvm.Cond.code ({ cls := "java/lang/String", name := "checkIndex", desc := "(II)V" } : Jvm.MethodName) jdk_42_method_155_code (2 : Nat) (Option.none : Option Jvm.ClassFile.FieldType)).before args0 about1 = true := code_word (m := ⟨7, 7⟩) (meth := k7m7) (c := k7c7) (by decide +kernel) rfl rfl rfl (by decide +kernel)
set_option maxRecDepth 65536 in
theorem w_c16 : (Jvm.Cond.code ({ cls := "jdk/internal/util/Preconditions", name := "checkIndex", desc := "(IILjava/util/function/BiFunction;)I" } : Jvm.MethodName) jdk_41_method_11_code (3 : Nat) (Option.some Jvm.ClassFile.FieldType.int)).before args0 about1 = true := code_word (m := ⟨11, 1⟩) (meth := k11m1) (c := k11c1) (by decide +kernel) rfl rfl rfl (by decide +kernel)
set_option maxRecDepth 65536 in
theorem w_c17 : (Jvm.Cond.code ({ cls := "java/lang/StringUTF16", name := "toBytes", desc := "([CII)[B" } : Jvm.MethodName) jdk_52_method_14_code (5 : Nat) (Option.some (Jvm.ClassFile.FieldType.array Jvm.ClassFile.FieldType.byte))).before args0 about1 = true := code_word (m := ⟨9, 6⟩) (meth := k9m6) (c := k9c6) (by decide +kernel) rfl rfl rfl (by decide +kernel)
set_option maxRecDepth 65536 in
theorem w_c18 : (Jvm.Cond.code ({ cls := "java/lang/StringUTF16", name := "newBytesFor", desc := "(I)[B" } : Jvm.MethodName) jdk_52_method_2_code (1 : Nat) (Option.some (Jvm.ClassFile.FieldType.array Jvm.ClassFile.FieldType.byte))).before args0 about1 = true := code_word (m := ⟨9, 1⟩) (meth := k9m1) (c := k9c1) (by decide +kernel) rfl rfl rfl (by decide +kernel)
set_option maxRecDepth 65536 in
theorem w_c19 : (Jvm.Cond.code ({ cls := "java/lang/StringUTF16", name := "newBytesLength", desc := "(I)I" } : Jvm.MethodName) jdk_52_method_3_code (1 : Nat) (Option.some Jvm.ClassFile.FieldType.int)).before args0 about1 = true := code_word (m := ⟨9, 2⟩) (meth := k9m2) (c := k9c2) (by decide +kernel) rfl rfl rfl (by decide +kernel)
set_option maxRecDepth 65536 in
theorem w_c20 : (Jvm.Cond.code ({ cls := "java/lang/StringUTF16", name := "putChar", desc := "([BII)V" } : Jvm.MethodName) jdk_52_method_4_code (3 : Nat) (Option.none : Option Jvm.ClassFile.FieldType)).before args0 about1 = true := code_word (m := ⟨9, 3⟩) (meth := k9m3) (c := k9c3) (by decide +kernel) rfl rfl rfl (by decide +kernel)
set_option maxRecDepth 65536 in
theorem w_c21 : (Jvm.Cond.code ({ cls := "java/lang/StringUTF16", name := "getChar", desc := "([BI)C" } : Jvm.MethodName) jdk_52_method_5_code (2 : Nat) (Option.some Jvm.ClassFile.FieldType.char)).before args0 about1 = true := code_word (m := ⟨9, 4⟩) (meth := k9m4) (c := k9c4) (by decide +kernel) rfl rfl rfl (by decide +kernel)
set_option maxRecDepth 65536 in
theorem w_c22 : (Jvm.Cond.code ({ cls := "java/lang/StringUTF16", name := "charAt", desc := "([BI)C" } : Jvm.MethodName) jdk_52_method_83_code (2 : Nat) (Option.some Jvm.ClassFile.FieldType.char)).before args0 about1 = true := code_word (m := ⟨9, 10⟩) (meth := k9m10) (c := k9c10) (by decide +kernel) rfl rfl rfl (by decide +kernel)
set_option maxRecDepth 65536 in
theorem w_c23 : (Jvm.Cond.code ({ cls := "java/lang/StringUTF16", name := "checkIndex", desc := "(I[B)V" } : Jvm.MethodName) jdk_52_method_91_code (2 : Nat) (Option.none : Option Jvm.ClassFile.FieldType)).before args0 about1 = true := code_word (m := ⟨9, 11⟩) (meth := k9m11) (c := k9c11) (by decide +kernel) rfl rfl rfl (by decide +kernel)
set_option maxRecDepth 65536 in
theorem w_c24 : (Jvm.Cond.code ({ cls := "java/lang/StringUTF16", name := "length", desc := "([B)I" } : Jvm.MethodName) jdk_52_method_6_code (1 : Nat) (Option.some Jvm.ClassFile.FieldType.int)).before args0 about1 = true := code_word (m := ⟨9, 5⟩) (meth := k9m5) (c := k9c5) (by decide +kernel) rfl rfl rfl (by decide +kernel)
def codes1 : List Jvm.Cond := [Jvm.Cond.code x code maxLocals ret, Jvm.Cond.code ({ cls := "com/example/gatewarden/gatewarden/formats/PhysicalLinesIsBlankPinLaw", name := "draw", desc := "(I)C" } : Jvm.MethodName) method_3_code (2 : Nat) (Option.some Jvm.ClassFile.FieldType.char), Jvm.Cond.code ({ cls := "java/lang/String", name := "<init>", desc := "([C)V" } : Jvm.MethodName) jdk_42_method_3_code (2 : Nat) (Option.none : Option Jvm.ClassFile.FieldType), Jvm.Cond.code ({ cls := "java/lang/String", name := "<init>", desc := "([CIILjava/lang/Void;)V" } : Jvm.MethodName) jdk_42_method_149_code (6 : Nat) (Option.none : Option Jvm.ClassFile.FieldType), Jvm.Cond.code ({ cls := "java/lang/Object", name := "<init>", desc := "()V" } : Jvm.MethodName) object_method_1_code (1 : Nat) (Option.none : Option Jvm.ClassFile.FieldType), Jvm.Cond.code ({ cls := "com/example/gatewarden/gatewarden/formats/PhysicalLines", name := "isBlank", desc := "(Ljava/lang/String;)Z" } : Jvm.MethodName) prog_66_method_6_code (3 : Nat) (Option.some Jvm.ClassFile.FieldType.boolean), Jvm.Cond.code ({ cls := "java/lang/String", name := "length", desc := "()I" } : Jvm.MethodName) jdk_42_method_54_code (1 : Nat) (Option.some Jvm.ClassFile.FieldType.int), Jvm.Cond.code ({ cls := "java/lang/String", name := "coder", desc := "()B" } : Jvm.MethodName) jdk_42_method_152_code (1 : Nat) (Option.some Jvm.ClassFile.FieldType.byte), Jvm.Cond.code ({ cls := "com/example/gatewarden/gatewarden/formats/PhysicalLinesIsBlankPinLaw", name := "sep", desc := "(C)Z" } : Jvm.MethodName) method_4_code (1 : Nat) (Option.some Jvm.ClassFile.FieldType.boolean), Jvm.Cond.code ({ cls := "java/lang/StringUTF16", name := "compress", desc := "([CII)[B" } : Jvm.MethodName) jdk_52_method_16_code (6 : Nat) (Option.some (Jvm.ClassFile.FieldType.array Jvm.ClassFile.FieldType.byte)), Jvm.Cond.code ({ cls := "java/lang/StringUTF16", name := "compress", desc := "([CI[BII)I" } : Jvm.MethodName) jdk_52_method_21_code (7 : Nat) (Option.some Jvm.ClassFile.FieldType.int), Jvm.Cond.code ({ cls := "java/lang/StringUTF16", name := "coderFromArrayLen", desc := "([BI)B" } : Jvm.MethodName) jdk_52_method_15_code (2 : Nat) (Option.some Jvm.ClassFile.FieldType.byte), Jvm.Cond.code ({ cls := "java/lang/String", name := "charAt", desc := "(I)C" } : Jvm.MethodName) jdk_42_method_56_code (2 : Nat) (Option.some Jvm.ClassFile.FieldType.char), Jvm.Cond.code ({ cls := "java/lang/String", name := "isLatin1", desc := "()Z" } : Jvm.MethodName) jdk_42_method_154_code (1 : Nat) (Option.some Jvm.ClassFile.FieldType.boolean), Jvm.Cond.code ({ cls := "java/lang/StringLatin1", name := "charAt", desc := "([BI)C" } : Jvm.MethodName) jdk_43_method_2_code (2 : Nat) (Option.some Jvm.ClassFile.FieldType.char), Jvm.Cond.code ({ cls := "java/lang/String", name := "checkIndex", desc := "(II)V" } : Jvm.MethodName) jdk_42_method_155_code (2 : Nat) (Option.none : Option Jvm.ClassFile.FieldType), Jvm.Cond.code ({ cls := "jdk/internal/util/Preconditions", name := "checkIndex", desc := "(IILjava/util/function/BiFunction;)I" } : Jvm.MethodName) jdk_41_method_11_code (3 : Nat) (Option.some Jvm.ClassFile.FieldType.int), Jvm.Cond.code ({ cls := "java/lang/StringUTF16", name := "toBytes", desc := "([CII)[B" } : Jvm.MethodName) jdk_52_method_14_code (5 : Nat) (Option.some (Jvm.ClassFile.FieldType.array Jvm.ClassFile.FieldType.byte)), Jvm.Cond.code ({ cls := "java/lang/StringUTF16", name := "newBytesFor", desc := "(I)[B" } : Jvm.MethodName) jdk_52_method_2_code (1 : Nat) (Option.some (Jvm.ClassFile.FieldType.array Jvm.ClassFile.FieldType.byte)), Jvm.Cond.code ({ cls := "java/lang/StringUTF16", name := "newBytesLength", desc := "(I)I" } : Jvm.MethodName) jdk_52_method_3_code (1 : Nat) (Option.some Jvm.ClassFile.FieldType.int), Jvm.Cond.code ({ cls := "java/lang/StringUTF16", name := "putChar", desc := "([BII)V" } : Jvm.MethodName) jdk_52_method_4_code (3 : Nat) (Option.none : Option Jvm.ClassFile.FieldType), Jvm.Cond.code ({ cls := "java/lang/StringUTF16", name := "getChar", desc := "([BI)C" } : Jvm.MethodName) jdk_52_method_5_code (2 : Nat) (Option.some Jvm.ClassFile.FieldType.char), Jvm.Cond.code ({ cls := "java/lang/StringUTF16", name := "charAt", desc := "([BI)C" } : Jvm.MethodName) jdk_52_method_83_code (2 : Nat) (Option.some Jvm.ClassFile.FieldType.char), Jvm.Cond.code ({ cls := "java/lang/StringUTF16", name := "checkIndex", desc := "(I[B)V" } : Jvm.MethodName) jdk_52_method_91_code (2 : Nat) (Option.none : Option Jvm.ClassFile.FieldType), Jvm.Cond.code ({ cls := "java/lang/StringUTF16", name := "length", desc := "([B)I" } : Jvm.MethodName) jdk_52_method_6_code (1 : Nat) (Option.some Jvm.ClassFile.FieldType.int)]
set_option maxRecDepth 65536 in
theorem codes_eq : words1.filter isCode = codes1 := rfl
theorem w_codes : ∀ c ∈ words1.filter isCode, c.before args0 about1 = true := by
  rw [codes_eq]
  intro c hc
  simp only [codes1, List.mem_cons, List.not_mem_nil, or_false] at hc
  rcases hc with rfl | rfl | rfl | rfl | rfl | rfl | rfl | rfl | rfl | rfl | rfl | rfl | rfl | rfl | rfl | rfl | rfl | rfl | rfl | rfl | rfl | rfl | rfl | rfl | rfl
  · exact w_c0
  · exact w_c1
  · exact w_c2
  · exact w_c3
  · exact w_c4
  · exact w_c5
  · exact w_c6
  · exact w_c7
  · exact w_c8
  · exact w_c9
  · exact w_c10
  · exact w_c11
  · exact w_c12
  · exact w_c13
  · exact w_c14
  · exact w_c15
  · exact w_c16
  · exact w_c17
  · exact w_c18
  · exact w_c19
  · exact w_c20
  · exact w_c21
  · exact w_c22
  · exact w_c23
  · exact w_c24
set_option maxRecDepth 65536 in
theorem w_t1 : (words1.take 24).all (fun c => isCode c || c.before args0 about1) = true := by decide +kernel
set_option maxRecDepth 65536 in
theorem w_t2 : ((words1.drop 24).take 24).all (fun c => isCode c || c.before args0 about1) = true := by decide +kernel
set_option maxRecDepth 65536 in
theorem w_t3 : (((words1.drop 24).drop 24).take 24).all (fun c => isCode c || c.before args0 about1) = true := by decide +kernel
set_option maxRecDepth 65536 in
theorem w_t4 : ((((words1.drop 24).drop 24).drop 24).take 24).all (fun c => isCode c || c.before args0 about1) = true := by decide +kernel
set_option maxRecDepth 65536 in
theorem w_t5 : ((((words1.drop 24).drop 24).drop 24).drop 24).all (fun c => isCode c || c.before args0 about1) = true := by decide +kernel
theorem w_tables : (allAtoms (Jvm.Cond.code x code maxLocals ret :: tables_1)).before args0 about1 = true := by
  rw [allAtoms_all]
  show words1.all (fun c => c.before args0 about1) = true
  refine all_split ?_ w_codes
  rw [← List.take_append_drop 24 words1, List.all_append, w_t1, ← List.take_append_drop 24 (words1.drop 24), List.all_append, w_t2, ← List.take_append_drop 24 ((words1.drop 24).drop 24), List.all_append, w_t3, ← List.take_append_drop 24 (((words1.drop 24).drop 24).drop 24), List.all_append, w_t4, w_t5]
  rfl
set_option maxRecDepth 65536 in
theorem w_rest : rest_1_c.before args0 about1 = true := by decide +kernel
set_option maxRecDepth 65536 in
theorem w_case : (Jvm.Cond.and given_1 narrow_1).before args0 about1 = true := by decide +kernel
set_option maxRecDepth 65536 in
theorem w_consts : constsHeld consts_1 about1 := Jvm.Lit.constsHeldB_iff.mp (by decide +kernel)
theorem w_applies : (headSpec (Jvm.Cond.code x code maxLocals ret :: tables_1) room_1).applies x e0.platform about1 = true :=
  (Spec.applies_iff w_frames).mpr ⟨w_running, w_runnable, w_alone, w_named, w_hears, w_ripe, w_room, w_tables⟩
theorem atStart : AtStart classFile x code maxLocals ret World_1 tables_1 room_1 Calls_1 rest_1 Pre_1 launch0 p0 e0 about1 theMethod args0 below0 :=
  ⟨lists_1, trivial, launch0.admits_env _ _ _, launch0.least_env, fairChoices_fair.cas, fairChoices_fair.clock, w_frames, w_args, w_heap, w_applies, ⟨w_consts, trivial⟩, w_rest, w_case⟩
end start1
theorem witness_1 : WitnessClaimed_1 := ⟨start1.p0, start1.e0, start1.about1, start1.theMethod, start1.args0, start1.below0, start1.atStart⟩
end Jvm.Pilot.@@N@@
